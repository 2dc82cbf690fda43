import JvmDerived
import JvmDerived.Pilot.@@N@@Statement
import JvmDerived.Pilot.@@N@@Code
set_option linter.unusedVariables false
set_option linter.unusedSimpArgs false
namespace Jvm.Pilot.@@N@@
open Jvm Jvm.ClassFile Sem Op Lib Jvm.Free Jvm.Stand Jvm.LawKit Jvm.RoadKit Bundle Jvm.Pilot.@@N@@.Jvm.D
section OwnKit
variable {p : Program} {l : Launch} {e : Env} {R : Room} {s : State} {m : MethodId} {args : Array Value} {below : List Frame} {meth : Method} {c : Code} {T : State} {locs : List Loc} {cells slots : Nat}
/-- from the state A the body runs to its end and leaves what Q says -/
def own_Go (p : Program) (e : Env) (below : List Frame) (s : State) (Q : Option Value → Heap → List Loc → Prop) (kc ks : Nat) (A : State) : Prop :=
  ∃ s₂ o, Steps p.tables e below A s₂ ∧ s₂.status = .running ∧ Ended s₂ below o ∧ ∃ v L, o = .returned v ∧ Q v s₂.heap L ∧ FrameEnd s o s₂ L kc ks
theorem own_go {Q : Option Value → Heap → List Loc → Prop} {kc ks : Nat} {A B : State} (h : ∀ t, Steps p.tables e below B t → Steps p.tables e below A t) (k : own_Go p e below s Q kc ks B) : own_Go p e below s Q kc ks A := by
  obtain ⟨s₂, o, h1, h2⟩ := k
  exact ⟨s₂, o, h _ h1, h2⟩
/-- from the state A the body runs to the frame g', the heap as it was -/
def own_Arm (p : Program) (l : Launch) (e : Env) (R : Room) (s : State) (m : MethodId) (args : Array Value) (below : List Frame) (meth : Method) (c : Code) (cells slots n0 : Nat) (h : Heap) (g' : JFrame) (A : State) : Prop :=
  ∃ (T' : State) (locs' : List Loc), Stand p l e R s m args below meth c T' locs' cells slots ∧ Fr n0 locs' ∧ T'.heap = h ∧ ∀ t, Steps p.tables e below (T'.setTop g') t → Steps p.tables e below A t
theorem own_arm {n0 : Nat} {h : Heap} {g' : JFrame} {A B : State} (k1 : ∀ t, Steps p.tables e below B t → Steps p.tables e below A t) (k : own_Arm p l e R s m args below meth c cells slots n0 h g' B) : own_Arm p l e R s m args below meth c cells slots n0 h g' A := by
  obtain ⟨T', locs', h1, h2, h3, h4⟩ := k
  exact ⟨T', locs', h1, h2, h3, fun t kt => k1 t (h4 t kt)⟩
theorem own_armEnd {n0 : Nat} {h : Heap} {g g' : JFrame} (X : Stand p l e R s m args below meth c T locs cells slots) (N : Fr n0 locs) (eT : T.heap = h) (q : g' = g) : own_Arm p l e R s m args below meth c cells slots n0 h g' (T.setTop g) :=
  ⟨T, locs, X, N, eT, fun t kt => q ▸ kt⟩
theorem own_mrg {n0 : Nat} {h : Heap} {g g' : JFrame} (X : Stand p l e R s m args below meth c T locs cells slots) (k : own_Arm p l e R s m args below meth c cells slots n0 h g' (T.setTop g)) :
    ∃ (T' : State) (locs' : List Loc), Stand p l e R s m args below meth c T' locs' cells slots ∧ Fr n0 locs' ∧ T'.heap = h ∧ ∀ t, Steps p.tables e below (T'.setTop g') t → Steps p.tables e below (T.setTop g) t := k
theorem own_leave {Q : Option Value → Heap → List Loc → Prop} {kc ks : Nat} {A : State} {v : Option Value} (X : Stand p l e R s m args below meth c T locs cells slots) (hv : meth.sig.returnType = none → v = none) (hlk : meth.locks = false)
    (hc : cells ≤ kc) (hs : slots ≤ ks) (hQ : Q v T.heap locs) (k : ∀ fs, (∀ (f : JFrame) (acts : List Action), f.method = m → f.locked = none → f.entered = [] → (doReturn e (T.setTop f) acts v).1 = T.setFrames fs) → Steps p.tables e below A (T.setFrames fs)) : own_Go p e below s Q kc ks A := by
  obtain ⟨fs, hr, hrun, hended, hW, hsame⟩ := X.leave (v := v) hv hlk
  exact ⟨_, _, k fs hr, hrun, hended, _, _, rfl, hQ, ⟨_, rfl⟩, hW, hsame.mono hc hs⟩
theorem own_retI {Q : Option Value → Heap → List Loc → Prop} {kc ks pc : Nat} {Ls : Array Slot} {z : Int32} {rest : List Value} (X : Stand p l e R s m args below meth c T locs cells slots) (hx : p.tables.exec = Jvm.exec) (hret : meth.sig.returnType = some .int) (hlk : meth.locks = false)
    (hd : decode c.code pc = .ok (.ireturn, 1)) (hc : cells ≤ kc) (hs : slots ≤ ks) (hQ : Q (some (.int z)) T.heap locs) : own_Go p e below s Q kc ks (T.setTop (mkF m pc Ls (.int z :: rest))) := by
  refine own_leave X (fun h => by rw [hret] at h; cases h) hlk hc hs hQ fun fs hl => ?_
  have hm' : T.vm.method? m = some meth := X.method'
  have hn : narrow .int (.int z) = .int z := rfl
  show Steps p.tables e below (T.setTop { method := m, pc := pc, locals := Ls, stack := _ :: rest, locked := none }) _
  jvm_step X.here [X.here.top, hx, hd, hm', hret, hn]
  first | (intro acts; rw [hl _ acts rfl rfl rfl]) | rw [hl _ _ rfl rfl rfl]
  exact Steps.refl _
theorem own_retN {Q : Option Value → Heap → List Loc → Prop} {kc ks pc : Nat} {Ls : Array Slot} {z : Int32} {rest : List Value} {t : FieldType} (X : Stand p l e R s m args below meth c T locs cells slots) (hx : p.tables.exec = Jvm.exec) (hret : meth.sig.returnType = some t) (ht : t = .boolean ∨ t = .byte ∨ t = .char ∨ t = .short) (hlk : meth.locks = false)
    (hd : decode c.code pc = .ok (.ireturn, 1)) (hc : cells ≤ kc) (hs : slots ≤ ks) (hQ : Q (some (.int (nar t z))) T.heap locs) : own_Go p e below s Q kc ks (T.setTop (mkF m pc Ls (.int z :: rest))) :=
  own_leave X (fun h => by rw [hret] at h; cases h) hlk hc hs hQ fun fs hl => retN X hx (t := t) hret ht hd hl
theorem own_nar01 {z : Int32} (h : z = 0 ∨ z = 1) : nar .boolean z = z := by rcases h with rfl | rfl <;> rfl
theorem own_retZ {Q : Option Value → Heap → List Loc → Prop} {kc ks pc : Nat} {Ls : Array Slot} {z : Int32} {rest : List Value} (X : Stand p l e R s m args below meth c T locs cells slots) (hx : p.tables.exec = Jvm.exec) (hret : meth.sig.returnType = some .boolean) (hlk : meth.locks = false)
    (hd : decode c.code pc = .ok (.ireturn, 1)) (hc : cells ≤ kc) (hs : slots ≤ ks) (hz : z = 0 ∨ z = 1) (hQ : Q (some (.int z)) T.heap locs) : own_Go p e below s Q kc ks (T.setTop (mkF m pc Ls (.int z :: rest))) :=
  own_retN X hx hret (Or.inl rfl) hlk hd hc hs (by rw [own_nar01 hz]; exact hQ)
theorem own_retJ {Q : Option Value → Heap → List Loc → Prop} {kc ks pc : Nat} {Ls : Array Slot} {z : Int64} (X : Stand p l e R s m args below meth c T locs cells slots) (hx : p.tables.exec = Jvm.exec) (hret : meth.sig.returnType = some .long) (hlk : meth.locks = false)
    (hd : decode c.code pc = .ok (.lreturn, 1)) (hc : cells ≤ kc) (hs : slots ≤ ks) (hQ : Q (some (.long z)) T.heap locs) : own_Go p e below s Q kc ks (T.setTop (mkF m pc Ls [.long z])) :=
  own_leave X (fun h => by rw [hret] at h; cases h) hlk hc hs hQ fun fs hl => X.lreturnOut hx hret hd hl
theorem own_retA {Q : Option Value → Heap → List Loc → Prop} {kc ks pc : Nat} {Ls : Array Slot} {w : Value} {t : FieldType} {rest : List Value} (X : Stand p l e R s m args below meth c T locs cells slots) (hx : p.tables.exec = Jvm.exec) (hret : meth.sig.returnType = some t) (ht : t.isReference = true) (hw : w.isRef = true) (hlk : meth.locks = false)
    (hd : decode c.code pc = .ok (.areturn, 1)) (hc : cells ≤ kc) (hs : slots ≤ ks) (hQ : Q (some w) T.heap locs) : own_Go p e below s Q kc ks (T.setTop (mkF m pc Ls (w :: rest))) := by
  refine own_leave X (fun h => by rw [hret] at h; cases h) hlk hc hs hQ fun fs hl => ?_
  have hm' : T.vm.method? m = some meth := X.method'
  show Steps p.tables e below (T.setTop { method := m, pc := pc, locals := Ls, stack := _ :: rest, locked := none }) _
  rcases ref_cases hw with rfl | ⟨a, rfl⟩
  all_goals
    jvm_step X.here [X.here.top, hx, hd, hm', hret, Value.isRef, ht]
    first | (intro acts; rw [hl _ acts rfl rfl rfl]) | rw [hl _ _ rfl rfl rfl]
    exact Steps.refl _
theorem own_retV {Q : Option Value → Heap → List Loc → Prop} {kc ks pc : Nat} {Ls : Array Slot} (X : Stand p l e R s m args below meth c T locs cells slots) (hx : p.tables.exec = Jvm.exec) (hret : meth.sig.returnType = none) (hlk : meth.locks = false)
    (hd : decode c.code pc = .ok (.return_, 1)) (hc : cells ≤ kc) (hs : slots ≤ ks) (hQ : Q none T.heap locs) : own_Go p e below s Q kc ks (T.setTop (mkF m pc Ls [])) :=
  own_leave X (fun _ => rfl) hlk hc hs hQ fun fs hl => X.returnOut hx hret hd hl
theorem own_getFR {Z : State} {a0 : Array Value} {h : Heap} (X : Stand p l e R s m args below meth c T locs cells slots) (hx : p.tables.exec = Jvm.exec) (hZ : Z.Warmed39 s.vm) {own O n d : String} {index : Nat} (hown : s.vm.findClass own = some m.cls) (w : (Jvm.Cond.fieldRef own index O n d).before a0 Z = true)
    (eT : T.heap = h) {a : Addr} {v : Value} (F : Fld Z h a O n d v) {g : JFrame} (hg : g.method = m) {rest : List Value} (hs : g.stack = .ref a :: rest) (hd : decode c.code g.pc = .ok (.getfield index, 3)) (target : State) (k : Steps p.tables e below (T.setTop { g with pc := g.pc + 3, stack := v :: rest }) target) : Steps p.tables e below (T.setTop g) target := by
  obtain ⟨cell, cf, kc, i, f, h1, h2, h3, h4, -, -, h7⟩ := F
  have hW : Z.Warmed39 T.vm := wtrans hZ X.warmed
  have w2 := Cond.fieldRef_warmed39 hW w
  obtain ⟨k', hi, -⟩ := State.fieldFound?_setVm (s := Z) hW.alike h2
  have hc : (Z.setVm T.vm).vm.findClass own = some m.cls := by show T.vm.findClass own = _; rw [X.warmed.alike.findClass]; exact hown
  obtain ⟨c1, k1, i1, f1, e1, hr⟩ := Cond.fieldRef_spec hc w2
  cases hi.symm.trans e1
  exact (X.getfieldR hx hg (cF := cf) (field := f) hr h3 hs (by rw [eT]; exact h1) h4 h7 hd (Steps.refl _)).trans k
theorem own_ite01 {c : Prop} [Decidable c] {a b : Int32} (ha : a = 0 ∨ a = 1) (hb : b = 0 ∨ b = 1) : (if c then a else b) = 0 ∨ (if c then a else b) = 1 := by split <;> assumption
end OwnKit
theorem own_remI (a b : Int32) : a - a / b * b = a % b := by
  apply Int32.toInt_inj.mp
  rw [Int32.toInt_sub, Int32.toInt_mul, Int32.toInt_div, Int32.toInt_mod]
  rw [Int.bmod_mul_bmod, Int.sub_bmod_bmod]
  have e : a.toInt - a.toInt.tdiv b.toInt * b.toInt = a.toInt.tmod b.toInt := by
    have := Int.mul_tdiv_add_tmod a.toInt b.toInt
    rw [Int.mul_comm] at this
    omega
  rw [e, ← Int32.toInt_mod]
  exact Int.bmod_eq_of_le (by have := Int32.le_toInt (a % b); omega) (by have := Int32.toInt_lt (a % b); omega)
theorem own_remJ (a b : Int64) : a - a / b * b = a % b := by
  apply Int64.toInt_inj.mp
  rw [Int64.toInt_sub, Int64.toInt_mul, Int64.toInt_div, Int64.toInt_mod]
  rw [Int.bmod_mul_bmod, Int.sub_bmod_bmod]
  have e : a.toInt - a.toInt.tdiv b.toInt * b.toInt = a.toInt.tmod b.toInt := by
    have := Int.mul_tdiv_add_tmod a.toInt b.toInt
    rw [Int.mul_comm] at this
    omega
  rw [e, ← Int64.toInt_mod]
  exact Int.bmod_eq_of_le (by have := Int64.le_toInt (a % b); omega) (by have := Int64.toInt_lt (a % b); omega)
theorem own_lc_eq {a b : Int64} (h : a = b) : lcmpW a b = 0 := by subst h; simp [lcmpW]
theorem own_lc_neq {a b : Int64} (h : ¬ (a = b)) : ¬ (lcmpW a b = 0) := by unfold lcmpW; split <;> first | decide | (rw [if_neg h]; decide)
theorem own_lc_lt {a b : Int64} (h : a < b) : lcmpW a b < 0 := by
  have h1 : ¬ (a > b) := fun q => Int64.lt_irrefl (Int64.lt_trans h q)
  have h2 : ¬ (a = b) := fun q => by subst q; exact Int64.lt_irrefl h
  rw [lcmpW, if_neg h1, if_neg h2]; decide
theorem own_lc_nlt {a b : Int64} (h : ¬ (a < b)) : ¬ (lcmpW a b < 0) := by
  unfold lcmpW
  split
  · decide
  · rename_i h1
    split
    · decide
    · rename_i h2; exact absurd (Int64.le_antisymm (Int64.not_lt.mp h1) (Int64.not_lt.mp h)) h2
theorem own_lc_gt {a b : Int64} (h : b < a) : (0 : Int32) < lcmpW a b := by rw [lcmpW, if_pos h]; decide
theorem own_lc_ngt {a b : Int64} (h : ¬ (b < a)) : ¬ ((0 : Int32) < lcmpW a b) := by
  rw [lcmpW, if_neg h]; split <;> decide
theorem own_rn {w : Value} {C : String} (h : w.isRef = true) : narrow (.object C) w = w := by rcases ref_cases h with rfl | ⟨a, rfl⟩ <;> rfl
theorem own_rf {w : Value} {C : String} (h : w.isRef = true) : fits (.object C) w = true := by rcases ref_cases h with rfl | ⟨a, rfl⟩ <;> rfl
theorem own_plainE {Z : State} {h : Heap} {a : Addr} {C : String} (E : Exa Z h a C) : ∀ cell : Cell, h[a]? = some cell → cell.vm.isStatics = false := fun cell hc => by
  obtain ⟨c, k, h1, -, -, h4, -⟩ := E
  cases h1.symm.trans hc; exact h4
theorem own_staKeep {Z : State} {h h' : Heap} {C n d : String} {v : Value} {ws : List Addr} (F : Sta Z h C n d v) (K : Keep h h' ws) (q : ∀ x ∈ ws, ∀ cell : Cell, h[x]? = some cell → cell.vm.isStatics = false) : Sta Z h' C n d v := by
  obtain ⟨cf, i, k, f, st, cell, h1, h2, h3, h4, h5, h6, h7⟩ := F
  exact ⟨cf, i, k, f, st, cell, h1, h2, h3, h4, K.2.1 st cell h5 (fun hm => by rw [q st hm cell h5] at h6; cases h6), h6, h7⟩
def own_up {α : Type} (f : Nat → α) (i : Nat) (v : α) : Nat → α := fun k => if k = i then v else f k
def own_AI (Z : State) (h : Heap) (a : Addr) (ty : FieldType) (n : Nat) (f : Nat → Int32) : Prop := ∃ c : Cell, Arr Z h a c ty ∧ c.slots.size = n ∧ n < 2 ^ 31 ∧ ∀ j, j < n → c.slots[j]? = some (.int (f j))
theorem own_AI.lt {Z : State} {h : Heap} {a : Addr} {ty : FieldType} {n : Nat} {f : Nat → Int32} (F : own_AI Z h a ty n f) : a < h.size := by obtain ⟨c, A, -⟩ := F; exact A.lt
theorem own_AI.ext {Z : State} {h h' : Heap} {a : Addr} {ty : FieldType} {n : Nat} {f : Nat → Int32} (F : own_AI Z h a ty n f) (E : Ext h h') : own_AI Z h' a ty n f := by obtain ⟨c, A, r⟩ := F; exact ⟨c, A.ext E, r⟩
theorem own_AI.other {Z : State} {h h' : Heap} {a b : Addr} {ty : FieldType} {n sl : Nat} {w : Value} {f : Nat → Int32} (F : own_AI Z h a ty n f) (W : Wr h h' b sl w) (q : a ≠ b) : own_AI Z h' a ty n f := by obtain ⟨c, A, r⟩ := F; exact ⟨c, A.other W q, r⟩
theorem own_AI.keep {Z : State} {h h' : Heap} {a : Addr} {ty : FieldType} {n : Nat} {ws : List Addr} {f : Nat → Int32} (F : own_AI Z h a ty n f) (K : Keep h h' ws) (q : a ∉ ws) : own_AI Z h' a ty n f := by obtain ⟨c, A, r⟩ := F; exact ⟨c, ⟨K.2.1 a c A.1 q, A.2⟩, r⟩
theorem own_plainAI {Z : State} {h : Heap} {a : Addr} {ty : FieldType} {n : Nat} {f : Nat → Int32} (F : own_AI Z h a ty n f) : ∀ cell : Cell, h[a]? = some cell → cell.vm.isStatics = false := fun cell hc => by
  obtain ⟨c, A, -⟩ := F
  cases A.1.symm.trans hc; exact A.plain
theorem own_AI.wr {Z : State} {h h' : Heap} {a : Addr} {ty : FieldType} {n i : Nat} {x : Int32} {f : Nat → Int32} (F : own_AI Z h a ty n f) (W : Wr h h' a i (.int x)) : own_AI Z h' a ty n (own_up f i x) := by
  obtain ⟨c, A, S, B, H⟩ := F
  refine ⟨_, A.same W, by rw [sz_set]; exact S, B, fun j hj => ?_⟩
  show (c.slots.setIfInBounds i _)[j]? = _
  rw [Array.getElem?_setIfInBounds]
  by_cases q : i = j
  · subst q
    rw [if_pos rfl, if_pos (by rw [S]; exact hj)]; simp [own_up]
  · rw [if_neg q, H j hj, own_up, if_neg (fun e => q e.symm)]
theorem own_AI.new {Z : State} {h : Heap} {a : Addr} {k : ClassId} {ty : FieldType} {z : Int32} {n : Nat} (A : Arr Z h a (newA k ty z) ty) (hd : defaultValue ty = .int 0) (hn : z.toNatClampNeg = n) : own_AI Z h a ty n (fun _ => 0) := by
  refine ⟨_, A, by rw [sz_new]; exact hn, ?_, fun j hj => ?_⟩
  · have := Int32.toInt_lt z; rw [← hn]; unfold Int32.toNatClampNeg; omega
  · have hs : (newA k ty z).slots.size = n := by rw [sz_new]; exact hn
    simp only [newA] at hs ⊢
    rw [Array.getElem?_replicate, if_pos (by rw [hn]; exact hj), hd]
def own_AJ (Z : State) (h : Heap) (a : Addr) (ty : FieldType) (n : Nat) (f : Nat → Int64) : Prop := ∃ c : Cell, Arr Z h a c ty ∧ c.slots.size = n ∧ n < 2 ^ 31 ∧ ∀ j, j < n → c.slots[j]? = some (.long (f j))
theorem own_AJ.lt {Z : State} {h : Heap} {a : Addr} {ty : FieldType} {n : Nat} {f : Nat → Int64} (F : own_AJ Z h a ty n f) : a < h.size := by obtain ⟨c, A, -⟩ := F; exact A.lt
theorem own_AJ.ext {Z : State} {h h' : Heap} {a : Addr} {ty : FieldType} {n : Nat} {f : Nat → Int64} (F : own_AJ Z h a ty n f) (E : Ext h h') : own_AJ Z h' a ty n f := by obtain ⟨c, A, r⟩ := F; exact ⟨c, A.ext E, r⟩
theorem own_AJ.other {Z : State} {h h' : Heap} {a b : Addr} {ty : FieldType} {n sl : Nat} {w : Value} {f : Nat → Int64} (F : own_AJ Z h a ty n f) (W : Wr h h' b sl w) (q : a ≠ b) : own_AJ Z h' a ty n f := by obtain ⟨c, A, r⟩ := F; exact ⟨c, A.other W q, r⟩
theorem own_AJ.keep {Z : State} {h h' : Heap} {a : Addr} {ty : FieldType} {n : Nat} {ws : List Addr} {f : Nat → Int64} (F : own_AJ Z h a ty n f) (K : Keep h h' ws) (q : a ∉ ws) : own_AJ Z h' a ty n f := by obtain ⟨c, A, r⟩ := F; exact ⟨c, ⟨K.2.1 a c A.1 q, A.2⟩, r⟩
theorem own_plainAJ {Z : State} {h : Heap} {a : Addr} {ty : FieldType} {n : Nat} {f : Nat → Int64} (F : own_AJ Z h a ty n f) : ∀ cell : Cell, h[a]? = some cell → cell.vm.isStatics = false := fun cell hc => by
  obtain ⟨c, A, -⟩ := F
  cases A.1.symm.trans hc; exact A.plain
theorem own_AJ.wr {Z : State} {h h' : Heap} {a : Addr} {ty : FieldType} {n i : Nat} {x : Int64} {f : Nat → Int64} (F : own_AJ Z h a ty n f) (W : Wr h h' a i (.long x)) : own_AJ Z h' a ty n (own_up f i x) := by
  obtain ⟨c, A, S, B, H⟩ := F
  refine ⟨_, A.same W, by rw [sz_set]; exact S, B, fun j hj => ?_⟩
  show (c.slots.setIfInBounds i _)[j]? = _
  rw [Array.getElem?_setIfInBounds]
  by_cases q : i = j
  · subst q
    rw [if_pos rfl, if_pos (by rw [S]; exact hj)]; simp [own_up]
  · rw [if_neg q, H j hj, own_up, if_neg (fun e => q e.symm)]
theorem own_AJ.new {Z : State} {h : Heap} {a : Addr} {k : ClassId} {ty : FieldType} {z : Int32} {n : Nat} (A : Arr Z h a (newA k ty z) ty) (hd : defaultValue ty = .long 0) (hn : z.toNatClampNeg = n) : own_AJ Z h a ty n (fun _ => 0) := by
  refine ⟨_, A, by rw [sz_new]; exact hn, ?_, fun j hj => ?_⟩
  · have := Int32.toInt_lt z; rw [← hn]; unfold Int32.toNatClampNeg; omega
  · have hs : (newA k ty z).slots.size = n := by rw [sz_new]; exact hn
    simp only [newA] at hs ⊢
    rw [Array.getElem?_replicate, if_pos (by rw [hn]; exact hj), hd]
section OwnArr
variable {p : Program} {l : Launch} {e : Env} {R : Room} {s : State} {m : MethodId} {args : Array Value} {below : List Frame} {meth : Method} {c : Code} {T : State} {locs : List Loc} {cells slots : Nat} {Z : State} {h : Heap}
theorem own_inb {j : Int32} {n k : Nat} (S : k = n) (hj : ¬ j < 0 ∧ j.toNatClampNeg < n) : ¬ (j < 0 ∨ k ≤ j.toNatClampNeg) := fun q => q.elim hj.1 (fun u => absurd hj.2 (by omega))
theorem own_ldI (X : Stand p l e R s m args below meth c T locs cells slots) (hx : p.tables.exec = Jvm.exec) (hZ : Z.Warmed39 s.vm) (eT : T.heap = h) {a : Addr} {n : Nat} {f : Nat → Int32} (A : own_AI Z h a .int n f) {j : Int32} (hj : ¬ j < 0 ∧ j.toNatClampNeg < n)
    {g : JFrame} (hg : g.method = m) {rest : List Value} (hs : g.stack = .int j :: .ref a :: rest) (hd : decode c.code g.pc = .ok (.iaload, 1)) (target : State) (k : Steps p.tables e below (T.setTop { g with pc := g.pc + 1, stack := .int (f j.toNatClampNeg) :: rest }) target) : Steps p.tables e below (T.setTop g) target := by
  obtain ⟨c', Ar, S, -, H⟩ := A
  exact X.iaload hx (by rw [eT]; exact Ar.1) (State.isArrayOf_alike hZ.alike Ar.2.1) Ar.2.2 (own_inb S hj) (H _ hj.2) hg hs hd target k
theorem own_ldB (X : Stand p l e R s m args below meth c T locs cells slots) (hx : p.tables.exec = Jvm.exec) (hZ : Z.Warmed39 s.vm) (eT : T.heap = h) {a : Addr} {n : Nat} {f : Nat → Int32} (A : own_AI Z h a .byte n f) {j : Int32} (hj : ¬ j < 0 ∧ j.toNatClampNeg < n)
    {g : JFrame} (hg : g.method = m) {rest : List Value} (hs : g.stack = .int j :: .ref a :: rest) (hd : decode c.code g.pc = .ok (.baload, 1)) (target : State) (k : Steps p.tables e below (T.setTop { g with pc := g.pc + 1, stack := .int (f j.toNatClampNeg) :: rest }) target) : Steps p.tables e below (T.setTop g) target := by
  obtain ⟨c', Ar, S, -, H⟩ := A
  exact X.baloadBytes hx (by rw [eT]; exact Ar.1) (State.isArrayOf_alike hZ.alike Ar.2.1) Ar.2.2 (own_inb S hj) (H _ hj.2) hg hs hd target k
theorem own_ldJ (X : Stand p l e R s m args below meth c T locs cells slots) (hx : p.tables.exec = Jvm.exec) (hZ : Z.Warmed39 s.vm) (eT : T.heap = h) {a : Addr} {n : Nat} {f : Nat → Int64} (A : own_AJ Z h a .long n f) {j : Int32} (hj : ¬ j < 0 ∧ j.toNatClampNeg < n)
    {g : JFrame} (hg : g.method = m) {rest : List Value} (hs : g.stack = .int j :: .ref a :: rest) (hd : decode c.code g.pc = .ok (.laload, 1)) (target : State) (k : Steps p.tables e below (T.setTop { g with pc := g.pc + 1, stack := .long (f j.toNatClampNeg) :: rest }) target) : Steps p.tables e below (T.setTop g) target := by
  obtain ⟨c', Ar, S, -, H⟩ := A
  exact X.laload hx (by rw [eT]; exact Ar.1) (State.isArrayOf_alike hZ.alike Ar.2.1) Ar.2.2 (own_inb S hj) (H _ hj.2) hg hs hd target k
theorem own_lenI (X : Stand p l e R s m args below meth c T locs cells slots) (hx : p.tables.exec = Jvm.exec) (hZ : Z.Warmed39 s.vm) (eT : T.heap = h) {a : Addr} {ty : FieldType} {n : Nat} {f : Nat → Int32} (A : own_AI Z h a ty n f)
    {g : JFrame} (hg : g.method = m) {rest : List Value} (hs : g.stack = .ref a :: rest) (hd : decode c.code g.pc = .ok (.arraylength, 1)) (target : State) (k : Steps p.tables e below (T.setTop { g with pc := g.pc + 1, stack := .int (n.toInt32) :: rest }) target) : Steps p.tables e below (T.setTop g) target := by
  obtain ⟨c', Ar, S, -, H⟩ := A
  exact X.arraylength hx (by rw [eT]; exact Ar.1) (State.isArrayOf_alike hZ.alike Ar.2.1) hg hs hd target (by rw [S]; exact k)
theorem own_lenJ (X : Stand p l e R s m args below meth c T locs cells slots) (hx : p.tables.exec = Jvm.exec) (hZ : Z.Warmed39 s.vm) (eT : T.heap = h) {a : Addr} {ty : FieldType} {n : Nat} {f : Nat → Int64} (A : own_AJ Z h a ty n f)
    {g : JFrame} (hg : g.method = m) {rest : List Value} (hs : g.stack = .ref a :: rest) (hd : decode c.code g.pc = .ok (.arraylength, 1)) (target : State) (k : Steps p.tables e below (T.setTop { g with pc := g.pc + 1, stack := .int (n.toInt32) :: rest }) target) : Steps p.tables e below (T.setTop g) target := by
  obtain ⟨c', Ar, S, -, H⟩ := A
  exact X.arraylength hx (by rw [eT]; exact Ar.1) (State.isArrayOf_alike hZ.alike Ar.2.1) hg hs hd target (by rw [S]; exact k)
theorem own_stI (X : Stand p l e R s m args below meth c T locs cells slots) (hx : p.tables.exec = Jvm.exec) (hZ : Z.Warmed39 s.vm) (eT : T.heap = h) {a : Addr} {n : Nat} {f : Nat → Int32} (A : own_AI Z h a .int n f) {j x : Int32} (hj : ¬ j < 0 ∧ j.toNatClampNeg < n)
    {g : JFrame} (hg : g.method = m) {rest : List Value} (hs : g.stack = .int x :: .int j :: .ref a :: rest) (hd : decode c.code g.pc = .ok (.iastore, 1)) :
    ∃ T' h', Stand p l e R s m args below meth c T' (locs ++ [⟨a, j.toNatClampNeg⟩]) cells slots ∧ T'.heap = h' ∧ Wr h h' a j.toNatClampNeg (.int x) ∧ own_AI Z h' a .int n (own_up f j.toNatClampNeg x) ∧ ∀ target, Steps p.tables e below (T'.setTop { g with pc := g.pc + 1, stack := rest }) target → Steps p.tables e below (T.setTop g) target := by
  have A2 := A
  obtain ⟨c', Ar, S, -, H⟩ := A
  obtain ⟨T', h', X', e', W, st⟩ := stI X hx hZ eT Ar (j := j) (x := x) (own_inb S hj) hg hs hd
  exact ⟨T', h', X', e', W, A2.wr W, st⟩
theorem own_stB (X : Stand p l e R s m args below meth c T locs cells slots) (hx : p.tables.exec = Jvm.exec) (hZ : Z.Warmed39 s.vm) (eT : T.heap = h) {a : Addr} {n : Nat} {f : Nat → Int32} (A : own_AI Z h a .byte n f) {j x : Int32} (hj : ¬ j < 0 ∧ j.toNatClampNeg < n)
    {g : JFrame} (hg : g.method = m) {rest : List Value} (hs : g.stack = .int x :: .int j :: .ref a :: rest) (hd : decode c.code g.pc = .ok (.bastore, 1)) :
    ∃ T' h', Stand p l e R s m args below meth c T' (locs ++ [⟨a, j.toNatClampNeg⟩]) cells slots ∧ T'.heap = h' ∧ Wr h h' a j.toNatClampNeg (.int (nar .byte x)) ∧ own_AI Z h' a .byte n (own_up f j.toNatClampNeg (nar .byte x)) ∧ ∀ target, Steps p.tables e below (T'.setTop { g with pc := g.pc + 1, stack := rest }) target → Steps p.tables e below (T.setTop g) target := by
  have A2 := A
  obtain ⟨c', Ar, S, -, H⟩ := A
  obtain ⟨T', h', X', e', W, st⟩ := stB X hx hZ eT Ar (j := j) (x := x) (own_inb S hj) hg hs hd
  exact ⟨T', h', X', e', W, A2.wr W, st⟩
theorem own_stC (X : Stand p l e R s m args below meth c T locs cells slots) (hx : p.tables.exec = Jvm.exec) (hZ : Z.Warmed39 s.vm) (eT : T.heap = h) {a : Addr} {n : Nat} {f : Nat → Int32} (A : own_AI Z h a .char n f) {j x : Int32} (hj : ¬ j < 0 ∧ j.toNatClampNeg < n)
    {g : JFrame} (hg : g.method = m) {rest : List Value} (hs : g.stack = .int x :: .int j :: .ref a :: rest) (hd : decode c.code g.pc = .ok (.castore, 1)) :
    ∃ T' h', Stand p l e R s m args below meth c T' (locs ++ [⟨a, j.toNatClampNeg⟩]) cells slots ∧ T'.heap = h' ∧ Wr h h' a j.toNatClampNeg (.int (nar .char x)) ∧ own_AI Z h' a .char n (own_up f j.toNatClampNeg (nar .char x)) ∧ ∀ target, Steps p.tables e below (T'.setTop { g with pc := g.pc + 1, stack := rest }) target → Steps p.tables e below (T.setTop g) target := by
  have A2 := A
  obtain ⟨c', Ar, S, -, H⟩ := A
  obtain ⟨T', h', X', e', W, st⟩ := stC X hx hZ eT Ar (j := j) (x := x) (own_inb S hj) hg hs hd
  exact ⟨T', h', X', e', W, A2.wr W, st⟩
theorem own_stJ (X : Stand p l e R s m args below meth c T locs cells slots) (hx : p.tables.exec = Jvm.exec) (hZ : Z.Warmed39 s.vm) (eT : T.heap = h) {a : Addr} {n : Nat} {f : Nat → Int64} (A : own_AJ Z h a .long n f) {j : Int32} {x : Int64} (hj : ¬ j < 0 ∧ j.toNatClampNeg < n)
    {g : JFrame} (hg : g.method = m) {rest : List Value} (hs : g.stack = .long x :: .int j :: .ref a :: rest) (hd : decode c.code g.pc = .ok (.lastore, 1)) :
    ∃ T' h', Stand p l e R s m args below meth c T' (locs ++ [⟨a, j.toNatClampNeg⟩]) cells slots ∧ T'.heap = h' ∧ Wr h h' a j.toNatClampNeg (.long x) ∧ own_AJ Z h' a .long n (own_up f j.toNatClampNeg x) ∧ ∀ target, Steps p.tables e below (T'.setTop { g with pc := g.pc + 1, stack := rest }) target → Steps p.tables e below (T.setTop g) target := by
  have A2 := A
  obtain ⟨c', Ar, S, -, H⟩ := A
  obtain ⟨T', h', X', e', W, st⟩ := stJ X hx hZ eT Ar (j := j) (x := x) (own_inb S hj) hg hs hd
  exact ⟨T', h', X', e', W, A2.wr W, st⟩
end OwnArr
theorem own_fldI {s : State} {args : Array Value} {t : Term} {u : Addr} {C n d : String} {k : Int32} (et : t.eval args s none [] s = some (.ref u)) (h : (Jvm.Cond.eq (.field t C n d) (.int k)).value args s none s [] = some true) : Fld s s.heap u C n d (.int k) := by
  obtain ⟨x, y, ha, hb, -, -⟩ := cmp_v (Or.inl h)
  have hy : y = .int k := (Option.some.inj ((Term.int_eval k).symm.trans hb)).symm
  subst hy
  refine Fld.start ?_
  rw [← fld_at (o := none) (idx := []) et, ha]
  simp only [Cond.value, ha, hb] at h
  cases x <;> simp_all
theorem own_fldN {s : State} {args : Array Value} {t : Term} {u : Addr} {C n d : String} (et : t.eval args s none [] s = some (.ref u)) (h : (Jvm.Cond.eq (.field t C n d) .null).value args s none s [] = some true) : Fld s s.heap u C n d .null :=
  Fld.start (by rw [← fld_at (o := none) (idx := []) et]; exact null_v h)
theorem own_fldR {s : State} {args : Array Value} {t t' : Term} {u u' : Addr} {C n d : String} (et : t.eval args s none [] s = some (.ref u)) (et' : t'.eval args s none [] s = some (.ref u')) (h : (Jvm.Cond.eq (.field t C n d) t').value args s none s [] = some true) : Fld s s.heap u C n d (.ref u') := by
  obtain ⟨x, y, ha, hb, -, -⟩ := cmp_v (Or.inl h)
  have hy : y = .ref u' := Option.some.inj (hb.symm.trans et')
  subst hy
  refine Fld.start ?_
  rw [← fld_at (o := none) (idx := []) et, ha]
  simp only [Cond.value, ha, hb] at h
  cases x <;> simp_all
theorem own_neI {s : State} {args : Array Value} {t : Term} {u k : Int32} (et : t.eval args s none [] s = some (.int u)) (h : (Jvm.Cond.not (Jvm.Cond.eq t (.int k))).value args s none s [] = some true) : ¬ (u = k) := fun q => by
  have q2 := not_v h
  have hb : (Term.int k).eval args s none [] s = some (.int k) := Term.int_eval k
  subst q
  simp only [Cond.value, et, hb] at q2
  simp at q2
theorem d1_0 : decode prog_11_method_12_code 0 = .ok (.lconst 0, 1) := by decide +kernel
theorem d1_1 : decode prog_11_method_12_code 1 = .ok (.lstore_n 1, 1) := by decide +kernel
theorem d1_2 : decode prog_11_method_12_code 2 = .ok (.iconst 0, 1) := by decide +kernel
theorem d1_3 : decode prog_11_method_12_code 3 = .ok (.istore_n 3, 1) := by decide +kernel
theorem d1_4 : decode prog_11_method_12_code 4 = .ok (.iload_n 3, 1) := by decide +kernel
theorem d1_5 : decode prog_11_method_12_code 5 = .ok (.bipush 64, 2) := by decide +kernel
theorem d1_7 : decode prog_11_method_12_code 7 = .ok (.if_icmp .ge 19, 3) := by decide +kernel
theorem d1_10 : decode prog_11_method_12_code 10 = .ok (.lload_n 1, 1) := by decide +kernel
theorem d1_11 : decode prog_11_method_12_code 11 = .ok (.lconst 1, 1) := by decide +kernel
theorem d1_12 : decode prog_11_method_12_code 12 = .ok (.iload_n 3, 1) := by decide +kernel
theorem d1_13 : decode prog_11_method_12_code 13 = .ok (.lshl, 1) := by decide +kernel
theorem d1_14 : decode prog_11_method_12_code 14 = .ok (.lor, 1) := by decide +kernel
theorem d1_15 : decode prog_11_method_12_code 15 = .ok (.lstore_n 1, 1) := by decide +kernel
theorem d1_16 : decode prog_11_method_12_code 16 = .ok (.iload_n 3, 1) := by decide +kernel
theorem d1_17 : decode prog_11_method_12_code 17 = .ok (.aload_n 0, 1) := by decide +kernel
theorem d1_18 : decode prog_11_method_12_code 18 = .ok (.getfield 45, 3) := by decide +kernel
theorem d1_21 : decode prog_11_method_12_code 21 = .ok (.iadd, 1) := by decide +kernel
theorem d1_22 : decode prog_11_method_12_code 22 = .ok (.istore_n 3, 1) := by decide +kernel
theorem d1_23 : decode prog_11_method_12_code 23 = .ok (.goto (-19), 3) := by decide +kernel
theorem d1_26 : decode prog_11_method_12_code 26 = .ok (.lload_n 1, 1) := by decide +kernel
theorem d1_27 : decode prog_11_method_12_code 27 = .ok (.lreturn, 1) := by decide +kernel
theorem ef_1a (m : MethodId) (r0 : Addr) : entryFrame m #[(.ref r0)] 4 = mkF m 0 #[.val (.ref r0), .unset, .unset, .unset] [] := by (first | (simp [entryFrame, mkF, argsToLocals, Value.category]; done) | rfl)
theorem pn0 : plainName "com/example/upper_falls/upperfalls/FilterKind" = true := by first | (simp [plainName, overriddenIn]; done) | decide +kernel
def Q1a (Z : State) (r0 : Addr) (h0 : Heap) (n0 : Nat) (v : Option Value) (h : Heap) (L : List Loc) : Prop := v = some (.long (-1 : Int64)) ∧ Fr n0 L ∧ h = h0
set_option maxRecDepth 65536 in
set_option maxHeartbeats 40000000 in
theorem rm1a (l : Launch) (Z : State) (a0 : Array Value) (hw : ∀ d ∈ tables_1, d.before a0 Z = true) (ws : List Jvm.Cond) (r0 : Addr) (h0 : Heap) (n0 : Nat) (Z0 : n0 ≤ h0.size) (F_c : Fld Z h0 r0 "com/example/upper_falls/upperfalls/FilterKind" "cellBits" "I" (.int (1 : Int32))) :
    MetFree l (⟨"com/example/upper_falls/upperfalls/FilterKind", "lowestBitOfEachCell", "()J"⟩ : MethodName) (head1 (Jvm.Cond.code (⟨"com/example/upper_falls/upperfalls/FilterKind", "lowestBitOfEachCell", "()J"⟩ : MethodName) prog_11_method_12_code 4 (some .long) :: ws) ({ frames := 0, cells := 0, slots := 0, locals := 0 } : Room)) (fun a U => a = #[(.ref r0)] ∧ Z.Warmed39 U.vm ∧ U.heap = h0) (fun _ _ _ _ _ => True) (fun _ U o U' => ∃ v L, o = .returned v ∧ Q1a Z r0 h0 n0 v U'.heap L ∧ FrameEnd U o U' L ({ frames := 0, cells := 0, slots := 0, locals := 0 } : Room).cells ({ frames := 0, cells := 0, slots := 0, locals := 0 } : Room).slots) := by
  refine MetFree.of_bodySF (plainFor_of_name pn0) hisR ?_
  intro p e s m args below meth c s₁ Bd hml0 hP hK
  obtain ⟨rfl, hZ, hh⟩ := hP
  have hx := Bd.exec
  have hby := Bd.bytes
  have hml : c.maxLocals = 4 := hml0
  have hown : s.vm.findClass "com/example/upper_falls/upperfalls/FilterKind" = some m.cls := findClass_of_methodNamed Bd.named
  have hnm := (name_of_methodNamed Bd.named Bd.method).1
  have X0 : Stand p l e ({ frames := 0, cells := 0, slots := 0, locals := 0 } : Room) s m #[(.ref r0)] below meth c s₁ [] 0 0 := Stand.of_body Bd
  have e0 : s₁.heap = h0 := by rw [← hh, Bd.state]; rfl
  have N0 := Fr.nil n0
  have K0 : Keep h0 h0 [] := Keep.refl h0 _
  show own_Go p e below s (Q1a Z r0 h0 n0) ({ frames := 0, cells := 0, slots := 0, locals := 0 } : Room).cells ({ frames := 0, cells := 0, slots := 0, locals := 0 } : Room).slots (s₁.setTop (entryFrame m #[(.ref r0)] 4))
  refine own_go (fun t k => castTop (ef_1a m r0) k) ?_
  obtain ⟨T101, X101, e101, st101⟩ := getF X0 hx hZ hown (host := "") (Or.inl (hw _ (List.mem_of_getElem? (i := 9) rfl))) Via.refl e0 F_c (g := (mkF m 18 #[.val (.ref r0), .val (.long (1 : Int64)), .second, .val (.int (0 : Int32))] [(.ref r0), (.int (0 : Int32))])) rfl rfl (hb hby d1_18)
  obtain ⟨T102, X102, e102, st102⟩ := getF X101 hx hZ hown (host := "") (Or.inl (hw _ (List.mem_of_getElem? (i := 9) rfl))) Via.refl e101 F_c (g := (mkF m 18 #[.val (.ref r0), .val (.long (3 : Int64)), .second, .val (.int (1 : Int32))] [(.ref r0), (.int (1 : Int32))])) rfl rfl (hb hby d1_18)
  obtain ⟨T103, X103, e103, st103⟩ := getF X102 hx hZ hown (host := "") (Or.inl (hw _ (List.mem_of_getElem? (i := 9) rfl))) Via.refl e102 F_c (g := (mkF m 18 #[.val (.ref r0), .val (.long (7 : Int64)), .second, .val (.int (2 : Int32))] [(.ref r0), (.int (2 : Int32))])) rfl rfl (hb hby d1_18)
  obtain ⟨T104, X104, e104, st104⟩ := getF X103 hx hZ hown (host := "") (Or.inl (hw _ (List.mem_of_getElem? (i := 9) rfl))) Via.refl e103 F_c (g := (mkF m 18 #[.val (.ref r0), .val (.long (15 : Int64)), .second, .val (.int (3 : Int32))] [(.ref r0), (.int (3 : Int32))])) rfl rfl (hb hby d1_18)
  obtain ⟨T105, X105, e105, st105⟩ := getF X104 hx hZ hown (host := "") (Or.inl (hw _ (List.mem_of_getElem? (i := 9) rfl))) Via.refl e104 F_c (g := (mkF m 18 #[.val (.ref r0), .val (.long (31 : Int64)), .second, .val (.int (4 : Int32))] [(.ref r0), (.int (4 : Int32))])) rfl rfl (hb hby d1_18)
  obtain ⟨T106, X106, e106, st106⟩ := getF X105 hx hZ hown (host := "") (Or.inl (hw _ (List.mem_of_getElem? (i := 9) rfl))) Via.refl e105 F_c (g := (mkF m 18 #[.val (.ref r0), .val (.long (63 : Int64)), .second, .val (.int (5 : Int32))] [(.ref r0), (.int (5 : Int32))])) rfl rfl (hb hby d1_18)
  obtain ⟨T107, X107, e107, st107⟩ := getF X106 hx hZ hown (host := "") (Or.inl (hw _ (List.mem_of_getElem? (i := 9) rfl))) Via.refl e106 F_c (g := (mkF m 18 #[.val (.ref r0), .val (.long (127 : Int64)), .second, .val (.int (6 : Int32))] [(.ref r0), (.int (6 : Int32))])) rfl rfl (hb hby d1_18)
  obtain ⟨T108, X108, e108, st108⟩ := getF X107 hx hZ hown (host := "") (Or.inl (hw _ (List.mem_of_getElem? (i := 9) rfl))) Via.refl e107 F_c (g := (mkF m 18 #[.val (.ref r0), .val (.long (255 : Int64)), .second, .val (.int (7 : Int32))] [(.ref r0), (.int (7 : Int32))])) rfl rfl (hb hby d1_18)
  obtain ⟨T109, X109, e109, st109⟩ := getF X108 hx hZ hown (host := "") (Or.inl (hw _ (List.mem_of_getElem? (i := 9) rfl))) Via.refl e108 F_c (g := (mkF m 18 #[.val (.ref r0), .val (.long (511 : Int64)), .second, .val (.int (8 : Int32))] [(.ref r0), (.int (8 : Int32))])) rfl rfl (hb hby d1_18)
  obtain ⟨T110, X110, e110, st110⟩ := getF X109 hx hZ hown (host := "") (Or.inl (hw _ (List.mem_of_getElem? (i := 9) rfl))) Via.refl e109 F_c (g := (mkF m 18 #[.val (.ref r0), .val (.long (1023 : Int64)), .second, .val (.int (9 : Int32))] [(.ref r0), (.int (9 : Int32))])) rfl rfl (hb hby d1_18)
  obtain ⟨T111, X111, e111, st111⟩ := getF X110 hx hZ hown (host := "") (Or.inl (hw _ (List.mem_of_getElem? (i := 9) rfl))) Via.refl e110 F_c (g := (mkF m 18 #[.val (.ref r0), .val (.long (2047 : Int64)), .second, .val (.int (10 : Int32))] [(.ref r0), (.int (10 : Int32))])) rfl rfl (hb hby d1_18)
  obtain ⟨T112, X112, e112, st112⟩ := getF X111 hx hZ hown (host := "") (Or.inl (hw _ (List.mem_of_getElem? (i := 9) rfl))) Via.refl e111 F_c (g := (mkF m 18 #[.val (.ref r0), .val (.long (4095 : Int64)), .second, .val (.int (11 : Int32))] [(.ref r0), (.int (11 : Int32))])) rfl rfl (hb hby d1_18)
  obtain ⟨T113, X113, e113, st113⟩ := getF X112 hx hZ hown (host := "") (Or.inl (hw _ (List.mem_of_getElem? (i := 9) rfl))) Via.refl e112 F_c (g := (mkF m 18 #[.val (.ref r0), .val (.long (8191 : Int64)), .second, .val (.int (12 : Int32))] [(.ref r0), (.int (12 : Int32))])) rfl rfl (hb hby d1_18)
  obtain ⟨T114, X114, e114, st114⟩ := getF X113 hx hZ hown (host := "") (Or.inl (hw _ (List.mem_of_getElem? (i := 9) rfl))) Via.refl e113 F_c (g := (mkF m 18 #[.val (.ref r0), .val (.long (16383 : Int64)), .second, .val (.int (13 : Int32))] [(.ref r0), (.int (13 : Int32))])) rfl rfl (hb hby d1_18)
  obtain ⟨T115, X115, e115, st115⟩ := getF X114 hx hZ hown (host := "") (Or.inl (hw _ (List.mem_of_getElem? (i := 9) rfl))) Via.refl e114 F_c (g := (mkF m 18 #[.val (.ref r0), .val (.long (32767 : Int64)), .second, .val (.int (14 : Int32))] [(.ref r0), (.int (14 : Int32))])) rfl rfl (hb hby d1_18)
  obtain ⟨T116, X116, e116, st116⟩ := getF X115 hx hZ hown (host := "") (Or.inl (hw _ (List.mem_of_getElem? (i := 9) rfl))) Via.refl e115 F_c (g := (mkF m 18 #[.val (.ref r0), .val (.long (65535 : Int64)), .second, .val (.int (15 : Int32))] [(.ref r0), (.int (15 : Int32))])) rfl rfl (hb hby d1_18)
  obtain ⟨T117, X117, e117, st117⟩ := getF X116 hx hZ hown (host := "") (Or.inl (hw _ (List.mem_of_getElem? (i := 9) rfl))) Via.refl e116 F_c (g := (mkF m 18 #[.val (.ref r0), .val (.long (131071 : Int64)), .second, .val (.int (16 : Int32))] [(.ref r0), (.int (16 : Int32))])) rfl rfl (hb hby d1_18)
  obtain ⟨T118, X118, e118, st118⟩ := getF X117 hx hZ hown (host := "") (Or.inl (hw _ (List.mem_of_getElem? (i := 9) rfl))) Via.refl e117 F_c (g := (mkF m 18 #[.val (.ref r0), .val (.long (262143 : Int64)), .second, .val (.int (17 : Int32))] [(.ref r0), (.int (17 : Int32))])) rfl rfl (hb hby d1_18)
  obtain ⟨T119, X119, e119, st119⟩ := getF X118 hx hZ hown (host := "") (Or.inl (hw _ (List.mem_of_getElem? (i := 9) rfl))) Via.refl e118 F_c (g := (mkF m 18 #[.val (.ref r0), .val (.long (524287 : Int64)), .second, .val (.int (18 : Int32))] [(.ref r0), (.int (18 : Int32))])) rfl rfl (hb hby d1_18)
  obtain ⟨T120, X120, e120, st120⟩ := getF X119 hx hZ hown (host := "") (Or.inl (hw _ (List.mem_of_getElem? (i := 9) rfl))) Via.refl e119 F_c (g := (mkF m 18 #[.val (.ref r0), .val (.long (1048575 : Int64)), .second, .val (.int (19 : Int32))] [(.ref r0), (.int (19 : Int32))])) rfl rfl (hb hby d1_18)
  obtain ⟨T121, X121, e121, st121⟩ := getF X120 hx hZ hown (host := "") (Or.inl (hw _ (List.mem_of_getElem? (i := 9) rfl))) Via.refl e120 F_c (g := (mkF m 18 #[.val (.ref r0), .val (.long (2097151 : Int64)), .second, .val (.int (20 : Int32))] [(.ref r0), (.int (20 : Int32))])) rfl rfl (hb hby d1_18)
  obtain ⟨T122, X122, e122, st122⟩ := getF X121 hx hZ hown (host := "") (Or.inl (hw _ (List.mem_of_getElem? (i := 9) rfl))) Via.refl e121 F_c (g := (mkF m 18 #[.val (.ref r0), .val (.long (4194303 : Int64)), .second, .val (.int (21 : Int32))] [(.ref r0), (.int (21 : Int32))])) rfl rfl (hb hby d1_18)
  obtain ⟨T123, X123, e123, st123⟩ := getF X122 hx hZ hown (host := "") (Or.inl (hw _ (List.mem_of_getElem? (i := 9) rfl))) Via.refl e122 F_c (g := (mkF m 18 #[.val (.ref r0), .val (.long (8388607 : Int64)), .second, .val (.int (22 : Int32))] [(.ref r0), (.int (22 : Int32))])) rfl rfl (hb hby d1_18)
  obtain ⟨T124, X124, e124, st124⟩ := getF X123 hx hZ hown (host := "") (Or.inl (hw _ (List.mem_of_getElem? (i := 9) rfl))) Via.refl e123 F_c (g := (mkF m 18 #[.val (.ref r0), .val (.long (16777215 : Int64)), .second, .val (.int (23 : Int32))] [(.ref r0), (.int (23 : Int32))])) rfl rfl (hb hby d1_18)
  obtain ⟨T125, X125, e125, st125⟩ := getF X124 hx hZ hown (host := "") (Or.inl (hw _ (List.mem_of_getElem? (i := 9) rfl))) Via.refl e124 F_c (g := (mkF m 18 #[.val (.ref r0), .val (.long (33554431 : Int64)), .second, .val (.int (24 : Int32))] [(.ref r0), (.int (24 : Int32))])) rfl rfl (hb hby d1_18)
  obtain ⟨T126, X126, e126, st126⟩ := getF X125 hx hZ hown (host := "") (Or.inl (hw _ (List.mem_of_getElem? (i := 9) rfl))) Via.refl e125 F_c (g := (mkF m 18 #[.val (.ref r0), .val (.long (67108863 : Int64)), .second, .val (.int (25 : Int32))] [(.ref r0), (.int (25 : Int32))])) rfl rfl (hb hby d1_18)
  obtain ⟨T127, X127, e127, st127⟩ := getF X126 hx hZ hown (host := "") (Or.inl (hw _ (List.mem_of_getElem? (i := 9) rfl))) Via.refl e126 F_c (g := (mkF m 18 #[.val (.ref r0), .val (.long (134217727 : Int64)), .second, .val (.int (26 : Int32))] [(.ref r0), (.int (26 : Int32))])) rfl rfl (hb hby d1_18)
  obtain ⟨T128, X128, e128, st128⟩ := getF X127 hx hZ hown (host := "") (Or.inl (hw _ (List.mem_of_getElem? (i := 9) rfl))) Via.refl e127 F_c (g := (mkF m 18 #[.val (.ref r0), .val (.long (268435455 : Int64)), .second, .val (.int (27 : Int32))] [(.ref r0), (.int (27 : Int32))])) rfl rfl (hb hby d1_18)
  obtain ⟨T129, X129, e129, st129⟩ := getF X128 hx hZ hown (host := "") (Or.inl (hw _ (List.mem_of_getElem? (i := 9) rfl))) Via.refl e128 F_c (g := (mkF m 18 #[.val (.ref r0), .val (.long (536870911 : Int64)), .second, .val (.int (28 : Int32))] [(.ref r0), (.int (28 : Int32))])) rfl rfl (hb hby d1_18)
  obtain ⟨T130, X130, e130, st130⟩ := getF X129 hx hZ hown (host := "") (Or.inl (hw _ (List.mem_of_getElem? (i := 9) rfl))) Via.refl e129 F_c (g := (mkF m 18 #[.val (.ref r0), .val (.long (1073741823 : Int64)), .second, .val (.int (29 : Int32))] [(.ref r0), (.int (29 : Int32))])) rfl rfl (hb hby d1_18)
  obtain ⟨T131, X131, e131, st131⟩ := getF X130 hx hZ hown (host := "") (Or.inl (hw _ (List.mem_of_getElem? (i := 9) rfl))) Via.refl e130 F_c (g := (mkF m 18 #[.val (.ref r0), .val (.long (2147483647 : Int64)), .second, .val (.int (30 : Int32))] [(.ref r0), (.int (30 : Int32))])) rfl rfl (hb hby d1_18)
  obtain ⟨T132, X132, e132, st132⟩ := getF X131 hx hZ hown (host := "") (Or.inl (hw _ (List.mem_of_getElem? (i := 9) rfl))) Via.refl e131 F_c (g := (mkF m 18 #[.val (.ref r0), .val (.long (4294967295 : Int64)), .second, .val (.int (31 : Int32))] [(.ref r0), (.int (31 : Int32))])) rfl rfl (hb hby d1_18)
  obtain ⟨T133, X133, e133, st133⟩ := getF X132 hx hZ hown (host := "") (Or.inl (hw _ (List.mem_of_getElem? (i := 9) rfl))) Via.refl e132 F_c (g := (mkF m 18 #[.val (.ref r0), .val (.long (8589934591 : Int64)), .second, .val (.int (32 : Int32))] [(.ref r0), (.int (32 : Int32))])) rfl rfl (hb hby d1_18)
  obtain ⟨T134, X134, e134, st134⟩ := getF X133 hx hZ hown (host := "") (Or.inl (hw _ (List.mem_of_getElem? (i := 9) rfl))) Via.refl e133 F_c (g := (mkF m 18 #[.val (.ref r0), .val (.long (17179869183 : Int64)), .second, .val (.int (33 : Int32))] [(.ref r0), (.int (33 : Int32))])) rfl rfl (hb hby d1_18)
  obtain ⟨T135, X135, e135, st135⟩ := getF X134 hx hZ hown (host := "") (Or.inl (hw _ (List.mem_of_getElem? (i := 9) rfl))) Via.refl e134 F_c (g := (mkF m 18 #[.val (.ref r0), .val (.long (34359738367 : Int64)), .second, .val (.int (34 : Int32))] [(.ref r0), (.int (34 : Int32))])) rfl rfl (hb hby d1_18)
  obtain ⟨T136, X136, e136, st136⟩ := getF X135 hx hZ hown (host := "") (Or.inl (hw _ (List.mem_of_getElem? (i := 9) rfl))) Via.refl e135 F_c (g := (mkF m 18 #[.val (.ref r0), .val (.long (68719476735 : Int64)), .second, .val (.int (35 : Int32))] [(.ref r0), (.int (35 : Int32))])) rfl rfl (hb hby d1_18)
  obtain ⟨T137, X137, e137, st137⟩ := getF X136 hx hZ hown (host := "") (Or.inl (hw _ (List.mem_of_getElem? (i := 9) rfl))) Via.refl e136 F_c (g := (mkF m 18 #[.val (.ref r0), .val (.long (137438953471 : Int64)), .second, .val (.int (36 : Int32))] [(.ref r0), (.int (36 : Int32))])) rfl rfl (hb hby d1_18)
  obtain ⟨T138, X138, e138, st138⟩ := getF X137 hx hZ hown (host := "") (Or.inl (hw _ (List.mem_of_getElem? (i := 9) rfl))) Via.refl e137 F_c (g := (mkF m 18 #[.val (.ref r0), .val (.long (274877906943 : Int64)), .second, .val (.int (37 : Int32))] [(.ref r0), (.int (37 : Int32))])) rfl rfl (hb hby d1_18)
  obtain ⟨T139, X139, e139, st139⟩ := getF X138 hx hZ hown (host := "") (Or.inl (hw _ (List.mem_of_getElem? (i := 9) rfl))) Via.refl e138 F_c (g := (mkF m 18 #[.val (.ref r0), .val (.long (549755813887 : Int64)), .second, .val (.int (38 : Int32))] [(.ref r0), (.int (38 : Int32))])) rfl rfl (hb hby d1_18)
  obtain ⟨T140, X140, e140, st140⟩ := getF X139 hx hZ hown (host := "") (Or.inl (hw _ (List.mem_of_getElem? (i := 9) rfl))) Via.refl e139 F_c (g := (mkF m 18 #[.val (.ref r0), .val (.long (1099511627775 : Int64)), .second, .val (.int (39 : Int32))] [(.ref r0), (.int (39 : Int32))])) rfl rfl (hb hby d1_18)
  obtain ⟨T141, X141, e141, st141⟩ := getF X140 hx hZ hown (host := "") (Or.inl (hw _ (List.mem_of_getElem? (i := 9) rfl))) Via.refl e140 F_c (g := (mkF m 18 #[.val (.ref r0), .val (.long (2199023255551 : Int64)), .second, .val (.int (40 : Int32))] [(.ref r0), (.int (40 : Int32))])) rfl rfl (hb hby d1_18)
  obtain ⟨T142, X142, e142, st142⟩ := getF X141 hx hZ hown (host := "") (Or.inl (hw _ (List.mem_of_getElem? (i := 9) rfl))) Via.refl e141 F_c (g := (mkF m 18 #[.val (.ref r0), .val (.long (4398046511103 : Int64)), .second, .val (.int (41 : Int32))] [(.ref r0), (.int (41 : Int32))])) rfl rfl (hb hby d1_18)
  obtain ⟨T143, X143, e143, st143⟩ := getF X142 hx hZ hown (host := "") (Or.inl (hw _ (List.mem_of_getElem? (i := 9) rfl))) Via.refl e142 F_c (g := (mkF m 18 #[.val (.ref r0), .val (.long (8796093022207 : Int64)), .second, .val (.int (42 : Int32))] [(.ref r0), (.int (42 : Int32))])) rfl rfl (hb hby d1_18)
  obtain ⟨T144, X144, e144, st144⟩ := getF X143 hx hZ hown (host := "") (Or.inl (hw _ (List.mem_of_getElem? (i := 9) rfl))) Via.refl e143 F_c (g := (mkF m 18 #[.val (.ref r0), .val (.long (17592186044415 : Int64)), .second, .val (.int (43 : Int32))] [(.ref r0), (.int (43 : Int32))])) rfl rfl (hb hby d1_18)
  obtain ⟨T145, X145, e145, st145⟩ := getF X144 hx hZ hown (host := "") (Or.inl (hw _ (List.mem_of_getElem? (i := 9) rfl))) Via.refl e144 F_c (g := (mkF m 18 #[.val (.ref r0), .val (.long (35184372088831 : Int64)), .second, .val (.int (44 : Int32))] [(.ref r0), (.int (44 : Int32))])) rfl rfl (hb hby d1_18)
  obtain ⟨T146, X146, e146, st146⟩ := getF X145 hx hZ hown (host := "") (Or.inl (hw _ (List.mem_of_getElem? (i := 9) rfl))) Via.refl e145 F_c (g := (mkF m 18 #[.val (.ref r0), .val (.long (70368744177663 : Int64)), .second, .val (.int (45 : Int32))] [(.ref r0), (.int (45 : Int32))])) rfl rfl (hb hby d1_18)
  obtain ⟨T147, X147, e147, st147⟩ := getF X146 hx hZ hown (host := "") (Or.inl (hw _ (List.mem_of_getElem? (i := 9) rfl))) Via.refl e146 F_c (g := (mkF m 18 #[.val (.ref r0), .val (.long (140737488355327 : Int64)), .second, .val (.int (46 : Int32))] [(.ref r0), (.int (46 : Int32))])) rfl rfl (hb hby d1_18)
  obtain ⟨T148, X148, e148, st148⟩ := getF X147 hx hZ hown (host := "") (Or.inl (hw _ (List.mem_of_getElem? (i := 9) rfl))) Via.refl e147 F_c (g := (mkF m 18 #[.val (.ref r0), .val (.long (281474976710655 : Int64)), .second, .val (.int (47 : Int32))] [(.ref r0), (.int (47 : Int32))])) rfl rfl (hb hby d1_18)
  obtain ⟨T149, X149, e149, st149⟩ := getF X148 hx hZ hown (host := "") (Or.inl (hw _ (List.mem_of_getElem? (i := 9) rfl))) Via.refl e148 F_c (g := (mkF m 18 #[.val (.ref r0), .val (.long (562949953421311 : Int64)), .second, .val (.int (48 : Int32))] [(.ref r0), (.int (48 : Int32))])) rfl rfl (hb hby d1_18)
  obtain ⟨T150, X150, e150, st150⟩ := getF X149 hx hZ hown (host := "") (Or.inl (hw _ (List.mem_of_getElem? (i := 9) rfl))) Via.refl e149 F_c (g := (mkF m 18 #[.val (.ref r0), .val (.long (1125899906842623 : Int64)), .second, .val (.int (49 : Int32))] [(.ref r0), (.int (49 : Int32))])) rfl rfl (hb hby d1_18)
  obtain ⟨T151, X151, e151, st151⟩ := getF X150 hx hZ hown (host := "") (Or.inl (hw _ (List.mem_of_getElem? (i := 9) rfl))) Via.refl e150 F_c (g := (mkF m 18 #[.val (.ref r0), .val (.long (2251799813685247 : Int64)), .second, .val (.int (50 : Int32))] [(.ref r0), (.int (50 : Int32))])) rfl rfl (hb hby d1_18)
  obtain ⟨T152, X152, e152, st152⟩ := getF X151 hx hZ hown (host := "") (Or.inl (hw _ (List.mem_of_getElem? (i := 9) rfl))) Via.refl e151 F_c (g := (mkF m 18 #[.val (.ref r0), .val (.long (4503599627370495 : Int64)), .second, .val (.int (51 : Int32))] [(.ref r0), (.int (51 : Int32))])) rfl rfl (hb hby d1_18)
  obtain ⟨T153, X153, e153, st153⟩ := getF X152 hx hZ hown (host := "") (Or.inl (hw _ (List.mem_of_getElem? (i := 9) rfl))) Via.refl e152 F_c (g := (mkF m 18 #[.val (.ref r0), .val (.long (9007199254740991 : Int64)), .second, .val (.int (52 : Int32))] [(.ref r0), (.int (52 : Int32))])) rfl rfl (hb hby d1_18)
  obtain ⟨T154, X154, e154, st154⟩ := getF X153 hx hZ hown (host := "") (Or.inl (hw _ (List.mem_of_getElem? (i := 9) rfl))) Via.refl e153 F_c (g := (mkF m 18 #[.val (.ref r0), .val (.long (18014398509481983 : Int64)), .second, .val (.int (53 : Int32))] [(.ref r0), (.int (53 : Int32))])) rfl rfl (hb hby d1_18)
  obtain ⟨T155, X155, e155, st155⟩ := getF X154 hx hZ hown (host := "") (Or.inl (hw _ (List.mem_of_getElem? (i := 9) rfl))) Via.refl e154 F_c (g := (mkF m 18 #[.val (.ref r0), .val (.long (36028797018963967 : Int64)), .second, .val (.int (54 : Int32))] [(.ref r0), (.int (54 : Int32))])) rfl rfl (hb hby d1_18)
  obtain ⟨T156, X156, e156, st156⟩ := getF X155 hx hZ hown (host := "") (Or.inl (hw _ (List.mem_of_getElem? (i := 9) rfl))) Via.refl e155 F_c (g := (mkF m 18 #[.val (.ref r0), .val (.long (72057594037927935 : Int64)), .second, .val (.int (55 : Int32))] [(.ref r0), (.int (55 : Int32))])) rfl rfl (hb hby d1_18)
  obtain ⟨T157, X157, e157, st157⟩ := getF X156 hx hZ hown (host := "") (Or.inl (hw _ (List.mem_of_getElem? (i := 9) rfl))) Via.refl e156 F_c (g := (mkF m 18 #[.val (.ref r0), .val (.long (144115188075855871 : Int64)), .second, .val (.int (56 : Int32))] [(.ref r0), (.int (56 : Int32))])) rfl rfl (hb hby d1_18)
  obtain ⟨T158, X158, e158, st158⟩ := getF X157 hx hZ hown (host := "") (Or.inl (hw _ (List.mem_of_getElem? (i := 9) rfl))) Via.refl e157 F_c (g := (mkF m 18 #[.val (.ref r0), .val (.long (288230376151711743 : Int64)), .second, .val (.int (57 : Int32))] [(.ref r0), (.int (57 : Int32))])) rfl rfl (hb hby d1_18)
  obtain ⟨T159, X159, e159, st159⟩ := getF X158 hx hZ hown (host := "") (Or.inl (hw _ (List.mem_of_getElem? (i := 9) rfl))) Via.refl e158 F_c (g := (mkF m 18 #[.val (.ref r0), .val (.long (576460752303423487 : Int64)), .second, .val (.int (58 : Int32))] [(.ref r0), (.int (58 : Int32))])) rfl rfl (hb hby d1_18)
  obtain ⟨T160, X160, e160, st160⟩ := getF X159 hx hZ hown (host := "") (Or.inl (hw _ (List.mem_of_getElem? (i := 9) rfl))) Via.refl e159 F_c (g := (mkF m 18 #[.val (.ref r0), .val (.long (1152921504606846975 : Int64)), .second, .val (.int (59 : Int32))] [(.ref r0), (.int (59 : Int32))])) rfl rfl (hb hby d1_18)
  obtain ⟨T161, X161, e161, st161⟩ := getF X160 hx hZ hown (host := "") (Or.inl (hw _ (List.mem_of_getElem? (i := 9) rfl))) Via.refl e160 F_c (g := (mkF m 18 #[.val (.ref r0), .val (.long (2305843009213693951 : Int64)), .second, .val (.int (60 : Int32))] [(.ref r0), (.int (60 : Int32))])) rfl rfl (hb hby d1_18)
  obtain ⟨T162, X162, e162, st162⟩ := getF X161 hx hZ hown (host := "") (Or.inl (hw _ (List.mem_of_getElem? (i := 9) rfl))) Via.refl e161 F_c (g := (mkF m 18 #[.val (.ref r0), .val (.long (4611686018427387903 : Int64)), .second, .val (.int (61 : Int32))] [(.ref r0), (.int (61 : Int32))])) rfl rfl (hb hby d1_18)
  obtain ⟨T163, X163, e163, st163⟩ := getF X162 hx hZ hown (host := "") (Or.inl (hw _ (List.mem_of_getElem? (i := 9) rfl))) Via.refl e162 F_c (g := (mkF m 18 #[.val (.ref r0), .val (.long (9223372036854775807 : Int64)), .second, .val (.int (62 : Int32))] [(.ref r0), (.int (62 : Int32))])) rfl rfl (hb hby d1_18)
  obtain ⟨T164, X164, e164, st164⟩ := getF X163 hx hZ hown (host := "") (Or.inl (hw _ (List.mem_of_getElem? (i := 9) rfl))) Via.refl e163 F_c (g := (mkF m 18 #[.val (.ref r0), .val (.long (-1 : Int64)), .second, .val (.int (63 : Int32))] [(.ref r0), (.int (63 : Int32))])) rfl rfl (hb hby d1_18)
  have hgo165 : ∀ t, Steps p.tables e below (T164.setTop (mkF m 27 #[.val (.ref r0), .val (.long (-1 : Int64)), .second, .val (.int (64 : Int32))] [(.long (-1 : Int64))])) t → Steps p.tables e below (s₁.setTop (mkF m 0 #[.val (.ref r0), .unset, .unset, .unset] [])) t := by
    intro t kt
    show Steps p.tables e below (s₁.setTop (mkF m 0 #[.val (.ref r0), .unset, .unset, .unset] [])) _
    refine XS.lconst X0.here hx rfl (hb hby d1_0) ?_
    show Steps p.tables e below (s₁.setTop (mkF m 1 #[.val (.ref r0), .unset, .unset, .unset] [(.long (0 : Int64))])) _
    refine XS.lstoreN X0.here hx rfl (hb hby d1_1) rfl (l' := #[.val (.ref r0), .val (.long (0 : Int64)), .second, .unset]) rfl ?_
    show Steps p.tables e below (s₁.setTop (mkF m 2 #[.val (.ref r0), .val (.long (0 : Int64)), .second, .unset] [])) _
    refine XS.iconst X0.here hx rfl (hb hby d1_2) ?_
    show Steps p.tables e below (s₁.setTop (mkF m 3 #[.val (.ref r0), .val (.long (0 : Int64)), .second, .unset] [(.int (0 : Int32))])) _
    refine XS.istoreN X0.here hx rfl (hb hby d1_3) rfl (l' := #[.val (.ref r0), .val (.long (0 : Int64)), .second, .val (.int (0 : Int32))]) rfl ?_
    show Steps p.tables e below (s₁.setTop (mkF m 4 #[.val (.ref r0), .val (.long (0 : Int64)), .second, .val (.int (0 : Int32))] [])) _
    refine XS.iloadN X0.here hx rfl (hb hby d1_4) rfl ?_
    show Steps p.tables e below (s₁.setTop (mkF m 5 #[.val (.ref r0), .val (.long (0 : Int64)), .second, .val (.int (0 : Int32))] [(.int (0 : Int32))])) _
    refine XS.bipush X0.here hx rfl (hb hby d1_5) ?_
    show Steps p.tables e below (s₁.setTop (mkF m 7 #[.val (.ref r0), .val (.long (0 : Int64)), .second, .val (.int (0 : Int32))] [(.int (64 : Int32)), (.int (0 : Int32))])) _
    refine XS.icmpNo X0.here hx rfl (hb hby d1_7) rfl (tlt (by decide : (0 : Int32) < (64 : Int32))).2.1 ?_
    show Steps p.tables e below (s₁.setTop (mkF m 10 #[.val (.ref r0), .val (.long (0 : Int64)), .second, .val (.int (0 : Int32))] [])) _
    refine XS.lloadN X0.here hx rfl (hb hby d1_10) rfl ?_
    show Steps p.tables e below (s₁.setTop (mkF m 11 #[.val (.ref r0), .val (.long (0 : Int64)), .second, .val (.int (0 : Int32))] [(.long (0 : Int64))])) _
    refine XS.lconst X0.here hx rfl (hb hby d1_11) ?_
    show Steps p.tables e below (s₁.setTop (mkF m 12 #[.val (.ref r0), .val (.long (0 : Int64)), .second, .val (.int (0 : Int32))] [(.long (1 : Int64)), (.long (0 : Int64))])) _
    refine XS.iloadN X0.here hx rfl (hb hby d1_12) rfl ?_
    show Steps p.tables e below (s₁.setTop (mkF m 13 #[.val (.ref r0), .val (.long (0 : Int64)), .second, .val (.int (0 : Int32))] [(.int (0 : Int32)), (.long (1 : Int64)), (.long (0 : Int64))])) _
    refine XS.lshl X0.here hx rfl (hb hby d1_13) rfl ?_
    show Steps p.tables e below (s₁.setTop (mkF m 14 #[.val (.ref r0), .val (.long (0 : Int64)), .second, .val (.int (0 : Int32))] [(.long ((1 : Int64) <<< ((0 : Int32) &&& 0x3f).toInt64)), (.long (0 : Int64))])) _
    refine XS.lor X0.here hx rfl (hb hby d1_14) rfl ?_
    show Steps p.tables e below (s₁.setTop (mkF m 15 #[.val (.ref r0), .val (.long (0 : Int64)), .second, .val (.int (0 : Int32))] [(.long ((0 : Int64) ||| ((1 : Int64) <<< ((0 : Int32) &&& 0x3f).toInt64)))])) _
    rw [show ((0 : Int64) ||| ((1 : Int64) <<< ((0 : Int32) &&& 0x3f).toInt64)) = (1 : Int64) from by decide +kernel]
    refine XS.lstoreN X0.here hx rfl (hb hby d1_15) rfl (l' := #[.val (.ref r0), .val (.long (1 : Int64)), .second, .val (.int (0 : Int32))]) rfl ?_
    show Steps p.tables e below (s₁.setTop (mkF m 16 #[.val (.ref r0), .val (.long (1 : Int64)), .second, .val (.int (0 : Int32))] [])) _
    refine XS.iloadN X0.here hx rfl (hb hby d1_16) rfl ?_
    show Steps p.tables e below (s₁.setTop (mkF m 17 #[.val (.ref r0), .val (.long (1 : Int64)), .second, .val (.int (0 : Int32))] [(.int (0 : Int32))])) _
    refine XS.aloadN X0.here hx rfl (hb hby d1_17) rfl rfl ?_
    show Steps p.tables e below (s₁.setTop (mkF m 18 #[.val (.ref r0), .val (.long (1 : Int64)), .second, .val (.int (0 : Int32))] [(.ref r0), (.int (0 : Int32))])) _
    refine st101 _ ?_
    show Steps p.tables e below (T101.setTop (mkF m 21 #[.val (.ref r0), .val (.long (1 : Int64)), .second, .val (.int (0 : Int32))] [(.int (1 : Int32)), (.int (0 : Int32))])) _
    refine XS.iadd X101.here hx rfl (hb hby d1_21) rfl ?_
    show Steps p.tables e below (T101.setTop (mkF m 22 #[.val (.ref r0), .val (.long (1 : Int64)), .second, .val (.int (0 : Int32))] [(.int (1 : Int32))])) _
    refine XS.istoreN X101.here hx rfl (hb hby d1_22) rfl (l' := #[.val (.ref r0), .val (.long (1 : Int64)), .second, .val (.int (1 : Int32))]) rfl ?_
    show Steps p.tables e below (T101.setTop (mkF m 23 #[.val (.ref r0), .val (.long (1 : Int64)), .second, .val (.int (1 : Int32))] [])) _
    refine XS.goto X101.here hx rfl (pc0 := 23) (pc' := 4) rfl (hb hby d1_23) (by decide) (by decide) ?_
    show Steps p.tables e below (T101.setTop (mkF m 4 #[.val (.ref r0), .val (.long (1 : Int64)), .second, .val (.int (1 : Int32))] [])) _
    refine XS.iloadN X101.here hx rfl (hb hby d1_4) rfl ?_
    show Steps p.tables e below (T101.setTop (mkF m 5 #[.val (.ref r0), .val (.long (1 : Int64)), .second, .val (.int (1 : Int32))] [(.int (1 : Int32))])) _
    refine XS.bipush X101.here hx rfl (hb hby d1_5) ?_
    show Steps p.tables e below (T101.setTop (mkF m 7 #[.val (.ref r0), .val (.long (1 : Int64)), .second, .val (.int (1 : Int32))] [(.int (64 : Int32)), (.int (1 : Int32))])) _
    refine XS.icmpNo X101.here hx rfl (hb hby d1_7) rfl (tlt (by decide : (1 : Int32) < (64 : Int32))).2.1 ?_
    show Steps p.tables e below (T101.setTop (mkF m 10 #[.val (.ref r0), .val (.long (1 : Int64)), .second, .val (.int (1 : Int32))] [])) _
    refine XS.lloadN X101.here hx rfl (hb hby d1_10) rfl ?_
    show Steps p.tables e below (T101.setTop (mkF m 11 #[.val (.ref r0), .val (.long (1 : Int64)), .second, .val (.int (1 : Int32))] [(.long (1 : Int64))])) _
    refine XS.lconst X101.here hx rfl (hb hby d1_11) ?_
    show Steps p.tables e below (T101.setTop (mkF m 12 #[.val (.ref r0), .val (.long (1 : Int64)), .second, .val (.int (1 : Int32))] [(.long (1 : Int64)), (.long (1 : Int64))])) _
    refine XS.iloadN X101.here hx rfl (hb hby d1_12) rfl ?_
    show Steps p.tables e below (T101.setTop (mkF m 13 #[.val (.ref r0), .val (.long (1 : Int64)), .second, .val (.int (1 : Int32))] [(.int (1 : Int32)), (.long (1 : Int64)), (.long (1 : Int64))])) _
    refine XS.lshl X101.here hx rfl (hb hby d1_13) rfl ?_
    show Steps p.tables e below (T101.setTop (mkF m 14 #[.val (.ref r0), .val (.long (1 : Int64)), .second, .val (.int (1 : Int32))] [(.long ((1 : Int64) <<< ((1 : Int32) &&& 0x3f).toInt64)), (.long (1 : Int64))])) _
    refine XS.lor X101.here hx rfl (hb hby d1_14) rfl ?_
    show Steps p.tables e below (T101.setTop (mkF m 15 #[.val (.ref r0), .val (.long (1 : Int64)), .second, .val (.int (1 : Int32))] [(.long ((1 : Int64) ||| ((1 : Int64) <<< ((1 : Int32) &&& 0x3f).toInt64)))])) _
    rw [show ((1 : Int64) ||| ((1 : Int64) <<< ((1 : Int32) &&& 0x3f).toInt64)) = (3 : Int64) from by decide +kernel]
    refine XS.lstoreN X101.here hx rfl (hb hby d1_15) rfl (l' := #[.val (.ref r0), .val (.long (3 : Int64)), .second, .val (.int (1 : Int32))]) rfl ?_
    show Steps p.tables e below (T101.setTop (mkF m 16 #[.val (.ref r0), .val (.long (3 : Int64)), .second, .val (.int (1 : Int32))] [])) _
    refine XS.iloadN X101.here hx rfl (hb hby d1_16) rfl ?_
    show Steps p.tables e below (T101.setTop (mkF m 17 #[.val (.ref r0), .val (.long (3 : Int64)), .second, .val (.int (1 : Int32))] [(.int (1 : Int32))])) _
    refine XS.aloadN X101.here hx rfl (hb hby d1_17) rfl rfl ?_
    show Steps p.tables e below (T101.setTop (mkF m 18 #[.val (.ref r0), .val (.long (3 : Int64)), .second, .val (.int (1 : Int32))] [(.ref r0), (.int (1 : Int32))])) _
    refine st102 _ ?_
    show Steps p.tables e below (T102.setTop (mkF m 21 #[.val (.ref r0), .val (.long (3 : Int64)), .second, .val (.int (1 : Int32))] [(.int (1 : Int32)), (.int (1 : Int32))])) _
    refine XS.iadd X102.here hx rfl (hb hby d1_21) rfl ?_
    show Steps p.tables e below (T102.setTop (mkF m 22 #[.val (.ref r0), .val (.long (3 : Int64)), .second, .val (.int (1 : Int32))] [(.int (2 : Int32))])) _
    refine XS.istoreN X102.here hx rfl (hb hby d1_22) rfl (l' := #[.val (.ref r0), .val (.long (3 : Int64)), .second, .val (.int (2 : Int32))]) rfl ?_
    show Steps p.tables e below (T102.setTop (mkF m 23 #[.val (.ref r0), .val (.long (3 : Int64)), .second, .val (.int (2 : Int32))] [])) _
    refine XS.goto X102.here hx rfl (pc0 := 23) (pc' := 4) rfl (hb hby d1_23) (by decide) (by decide) ?_
    show Steps p.tables e below (T102.setTop (mkF m 4 #[.val (.ref r0), .val (.long (3 : Int64)), .second, .val (.int (2 : Int32))] [])) _
    refine XS.iloadN X102.here hx rfl (hb hby d1_4) rfl ?_
    show Steps p.tables e below (T102.setTop (mkF m 5 #[.val (.ref r0), .val (.long (3 : Int64)), .second, .val (.int (2 : Int32))] [(.int (2 : Int32))])) _
    refine XS.bipush X102.here hx rfl (hb hby d1_5) ?_
    show Steps p.tables e below (T102.setTop (mkF m 7 #[.val (.ref r0), .val (.long (3 : Int64)), .second, .val (.int (2 : Int32))] [(.int (64 : Int32)), (.int (2 : Int32))])) _
    refine XS.icmpNo X102.here hx rfl (hb hby d1_7) rfl (tlt (by decide : (2 : Int32) < (64 : Int32))).2.1 ?_
    show Steps p.tables e below (T102.setTop (mkF m 10 #[.val (.ref r0), .val (.long (3 : Int64)), .second, .val (.int (2 : Int32))] [])) _
    refine XS.lloadN X102.here hx rfl (hb hby d1_10) rfl ?_
    show Steps p.tables e below (T102.setTop (mkF m 11 #[.val (.ref r0), .val (.long (3 : Int64)), .second, .val (.int (2 : Int32))] [(.long (3 : Int64))])) _
    refine XS.lconst X102.here hx rfl (hb hby d1_11) ?_
    show Steps p.tables e below (T102.setTop (mkF m 12 #[.val (.ref r0), .val (.long (3 : Int64)), .second, .val (.int (2 : Int32))] [(.long (1 : Int64)), (.long (3 : Int64))])) _
    refine XS.iloadN X102.here hx rfl (hb hby d1_12) rfl ?_
    show Steps p.tables e below (T102.setTop (mkF m 13 #[.val (.ref r0), .val (.long (3 : Int64)), .second, .val (.int (2 : Int32))] [(.int (2 : Int32)), (.long (1 : Int64)), (.long (3 : Int64))])) _
    refine XS.lshl X102.here hx rfl (hb hby d1_13) rfl ?_
    show Steps p.tables e below (T102.setTop (mkF m 14 #[.val (.ref r0), .val (.long (3 : Int64)), .second, .val (.int (2 : Int32))] [(.long ((1 : Int64) <<< ((2 : Int32) &&& 0x3f).toInt64)), (.long (3 : Int64))])) _
    refine XS.lor X102.here hx rfl (hb hby d1_14) rfl ?_
    show Steps p.tables e below (T102.setTop (mkF m 15 #[.val (.ref r0), .val (.long (3 : Int64)), .second, .val (.int (2 : Int32))] [(.long ((3 : Int64) ||| ((1 : Int64) <<< ((2 : Int32) &&& 0x3f).toInt64)))])) _
    rw [show ((3 : Int64) ||| ((1 : Int64) <<< ((2 : Int32) &&& 0x3f).toInt64)) = (7 : Int64) from by decide +kernel]
    refine XS.lstoreN X102.here hx rfl (hb hby d1_15) rfl (l' := #[.val (.ref r0), .val (.long (7 : Int64)), .second, .val (.int (2 : Int32))]) rfl ?_
    show Steps p.tables e below (T102.setTop (mkF m 16 #[.val (.ref r0), .val (.long (7 : Int64)), .second, .val (.int (2 : Int32))] [])) _
    refine XS.iloadN X102.here hx rfl (hb hby d1_16) rfl ?_
    show Steps p.tables e below (T102.setTop (mkF m 17 #[.val (.ref r0), .val (.long (7 : Int64)), .second, .val (.int (2 : Int32))] [(.int (2 : Int32))])) _
    refine XS.aloadN X102.here hx rfl (hb hby d1_17) rfl rfl ?_
    show Steps p.tables e below (T102.setTop (mkF m 18 #[.val (.ref r0), .val (.long (7 : Int64)), .second, .val (.int (2 : Int32))] [(.ref r0), (.int (2 : Int32))])) _
    refine st103 _ ?_
    show Steps p.tables e below (T103.setTop (mkF m 21 #[.val (.ref r0), .val (.long (7 : Int64)), .second, .val (.int (2 : Int32))] [(.int (1 : Int32)), (.int (2 : Int32))])) _
    refine XS.iadd X103.here hx rfl (hb hby d1_21) rfl ?_
    show Steps p.tables e below (T103.setTop (mkF m 22 #[.val (.ref r0), .val (.long (7 : Int64)), .second, .val (.int (2 : Int32))] [(.int (3 : Int32))])) _
    refine XS.istoreN X103.here hx rfl (hb hby d1_22) rfl (l' := #[.val (.ref r0), .val (.long (7 : Int64)), .second, .val (.int (3 : Int32))]) rfl ?_
    show Steps p.tables e below (T103.setTop (mkF m 23 #[.val (.ref r0), .val (.long (7 : Int64)), .second, .val (.int (3 : Int32))] [])) _
    refine XS.goto X103.here hx rfl (pc0 := 23) (pc' := 4) rfl (hb hby d1_23) (by decide) (by decide) ?_
    show Steps p.tables e below (T103.setTop (mkF m 4 #[.val (.ref r0), .val (.long (7 : Int64)), .second, .val (.int (3 : Int32))] [])) _
    refine XS.iloadN X103.here hx rfl (hb hby d1_4) rfl ?_
    show Steps p.tables e below (T103.setTop (mkF m 5 #[.val (.ref r0), .val (.long (7 : Int64)), .second, .val (.int (3 : Int32))] [(.int (3 : Int32))])) _
    refine XS.bipush X103.here hx rfl (hb hby d1_5) ?_
    show Steps p.tables e below (T103.setTop (mkF m 7 #[.val (.ref r0), .val (.long (7 : Int64)), .second, .val (.int (3 : Int32))] [(.int (64 : Int32)), (.int (3 : Int32))])) _
    refine XS.icmpNo X103.here hx rfl (hb hby d1_7) rfl (tlt (by decide : (3 : Int32) < (64 : Int32))).2.1 ?_
    show Steps p.tables e below (T103.setTop (mkF m 10 #[.val (.ref r0), .val (.long (7 : Int64)), .second, .val (.int (3 : Int32))] [])) _
    refine XS.lloadN X103.here hx rfl (hb hby d1_10) rfl ?_
    show Steps p.tables e below (T103.setTop (mkF m 11 #[.val (.ref r0), .val (.long (7 : Int64)), .second, .val (.int (3 : Int32))] [(.long (7 : Int64))])) _
    refine XS.lconst X103.here hx rfl (hb hby d1_11) ?_
    show Steps p.tables e below (T103.setTop (mkF m 12 #[.val (.ref r0), .val (.long (7 : Int64)), .second, .val (.int (3 : Int32))] [(.long (1 : Int64)), (.long (7 : Int64))])) _
    refine XS.iloadN X103.here hx rfl (hb hby d1_12) rfl ?_
    show Steps p.tables e below (T103.setTop (mkF m 13 #[.val (.ref r0), .val (.long (7 : Int64)), .second, .val (.int (3 : Int32))] [(.int (3 : Int32)), (.long (1 : Int64)), (.long (7 : Int64))])) _
    refine XS.lshl X103.here hx rfl (hb hby d1_13) rfl ?_
    show Steps p.tables e below (T103.setTop (mkF m 14 #[.val (.ref r0), .val (.long (7 : Int64)), .second, .val (.int (3 : Int32))] [(.long ((1 : Int64) <<< ((3 : Int32) &&& 0x3f).toInt64)), (.long (7 : Int64))])) _
    refine XS.lor X103.here hx rfl (hb hby d1_14) rfl ?_
    show Steps p.tables e below (T103.setTop (mkF m 15 #[.val (.ref r0), .val (.long (7 : Int64)), .second, .val (.int (3 : Int32))] [(.long ((7 : Int64) ||| ((1 : Int64) <<< ((3 : Int32) &&& 0x3f).toInt64)))])) _
    rw [show ((7 : Int64) ||| ((1 : Int64) <<< ((3 : Int32) &&& 0x3f).toInt64)) = (15 : Int64) from by decide +kernel]
    refine XS.lstoreN X103.here hx rfl (hb hby d1_15) rfl (l' := #[.val (.ref r0), .val (.long (15 : Int64)), .second, .val (.int (3 : Int32))]) rfl ?_
    show Steps p.tables e below (T103.setTop (mkF m 16 #[.val (.ref r0), .val (.long (15 : Int64)), .second, .val (.int (3 : Int32))] [])) _
    refine XS.iloadN X103.here hx rfl (hb hby d1_16) rfl ?_
    show Steps p.tables e below (T103.setTop (mkF m 17 #[.val (.ref r0), .val (.long (15 : Int64)), .second, .val (.int (3 : Int32))] [(.int (3 : Int32))])) _
    refine XS.aloadN X103.here hx rfl (hb hby d1_17) rfl rfl ?_
    show Steps p.tables e below (T103.setTop (mkF m 18 #[.val (.ref r0), .val (.long (15 : Int64)), .second, .val (.int (3 : Int32))] [(.ref r0), (.int (3 : Int32))])) _
    refine st104 _ ?_
    show Steps p.tables e below (T104.setTop (mkF m 21 #[.val (.ref r0), .val (.long (15 : Int64)), .second, .val (.int (3 : Int32))] [(.int (1 : Int32)), (.int (3 : Int32))])) _
    refine XS.iadd X104.here hx rfl (hb hby d1_21) rfl ?_
    show Steps p.tables e below (T104.setTop (mkF m 22 #[.val (.ref r0), .val (.long (15 : Int64)), .second, .val (.int (3 : Int32))] [(.int (4 : Int32))])) _
    refine XS.istoreN X104.here hx rfl (hb hby d1_22) rfl (l' := #[.val (.ref r0), .val (.long (15 : Int64)), .second, .val (.int (4 : Int32))]) rfl ?_
    show Steps p.tables e below (T104.setTop (mkF m 23 #[.val (.ref r0), .val (.long (15 : Int64)), .second, .val (.int (4 : Int32))] [])) _
    refine XS.goto X104.here hx rfl (pc0 := 23) (pc' := 4) rfl (hb hby d1_23) (by decide) (by decide) ?_
    show Steps p.tables e below (T104.setTop (mkF m 4 #[.val (.ref r0), .val (.long (15 : Int64)), .second, .val (.int (4 : Int32))] [])) _
    refine XS.iloadN X104.here hx rfl (hb hby d1_4) rfl ?_
    show Steps p.tables e below (T104.setTop (mkF m 5 #[.val (.ref r0), .val (.long (15 : Int64)), .second, .val (.int (4 : Int32))] [(.int (4 : Int32))])) _
    refine XS.bipush X104.here hx rfl (hb hby d1_5) ?_
    show Steps p.tables e below (T104.setTop (mkF m 7 #[.val (.ref r0), .val (.long (15 : Int64)), .second, .val (.int (4 : Int32))] [(.int (64 : Int32)), (.int (4 : Int32))])) _
    refine XS.icmpNo X104.here hx rfl (hb hby d1_7) rfl (tlt (by decide : (4 : Int32) < (64 : Int32))).2.1 ?_
    show Steps p.tables e below (T104.setTop (mkF m 10 #[.val (.ref r0), .val (.long (15 : Int64)), .second, .val (.int (4 : Int32))] [])) _
    refine XS.lloadN X104.here hx rfl (hb hby d1_10) rfl ?_
    show Steps p.tables e below (T104.setTop (mkF m 11 #[.val (.ref r0), .val (.long (15 : Int64)), .second, .val (.int (4 : Int32))] [(.long (15 : Int64))])) _
    refine XS.lconst X104.here hx rfl (hb hby d1_11) ?_
    show Steps p.tables e below (T104.setTop (mkF m 12 #[.val (.ref r0), .val (.long (15 : Int64)), .second, .val (.int (4 : Int32))] [(.long (1 : Int64)), (.long (15 : Int64))])) _
    refine XS.iloadN X104.here hx rfl (hb hby d1_12) rfl ?_
    show Steps p.tables e below (T104.setTop (mkF m 13 #[.val (.ref r0), .val (.long (15 : Int64)), .second, .val (.int (4 : Int32))] [(.int (4 : Int32)), (.long (1 : Int64)), (.long (15 : Int64))])) _
    refine XS.lshl X104.here hx rfl (hb hby d1_13) rfl ?_
    show Steps p.tables e below (T104.setTop (mkF m 14 #[.val (.ref r0), .val (.long (15 : Int64)), .second, .val (.int (4 : Int32))] [(.long ((1 : Int64) <<< ((4 : Int32) &&& 0x3f).toInt64)), (.long (15 : Int64))])) _
    refine XS.lor X104.here hx rfl (hb hby d1_14) rfl ?_
    show Steps p.tables e below (T104.setTop (mkF m 15 #[.val (.ref r0), .val (.long (15 : Int64)), .second, .val (.int (4 : Int32))] [(.long ((15 : Int64) ||| ((1 : Int64) <<< ((4 : Int32) &&& 0x3f).toInt64)))])) _
    rw [show ((15 : Int64) ||| ((1 : Int64) <<< ((4 : Int32) &&& 0x3f).toInt64)) = (31 : Int64) from by decide +kernel]
    refine XS.lstoreN X104.here hx rfl (hb hby d1_15) rfl (l' := #[.val (.ref r0), .val (.long (31 : Int64)), .second, .val (.int (4 : Int32))]) rfl ?_
    show Steps p.tables e below (T104.setTop (mkF m 16 #[.val (.ref r0), .val (.long (31 : Int64)), .second, .val (.int (4 : Int32))] [])) _
    refine XS.iloadN X104.here hx rfl (hb hby d1_16) rfl ?_
    show Steps p.tables e below (T104.setTop (mkF m 17 #[.val (.ref r0), .val (.long (31 : Int64)), .second, .val (.int (4 : Int32))] [(.int (4 : Int32))])) _
    refine XS.aloadN X104.here hx rfl (hb hby d1_17) rfl rfl ?_
    show Steps p.tables e below (T104.setTop (mkF m 18 #[.val (.ref r0), .val (.long (31 : Int64)), .second, .val (.int (4 : Int32))] [(.ref r0), (.int (4 : Int32))])) _
    refine st105 _ ?_
    show Steps p.tables e below (T105.setTop (mkF m 21 #[.val (.ref r0), .val (.long (31 : Int64)), .second, .val (.int (4 : Int32))] [(.int (1 : Int32)), (.int (4 : Int32))])) _
    refine XS.iadd X105.here hx rfl (hb hby d1_21) rfl ?_
    show Steps p.tables e below (T105.setTop (mkF m 22 #[.val (.ref r0), .val (.long (31 : Int64)), .second, .val (.int (4 : Int32))] [(.int (5 : Int32))])) _
    refine XS.istoreN X105.here hx rfl (hb hby d1_22) rfl (l' := #[.val (.ref r0), .val (.long (31 : Int64)), .second, .val (.int (5 : Int32))]) rfl ?_
    show Steps p.tables e below (T105.setTop (mkF m 23 #[.val (.ref r0), .val (.long (31 : Int64)), .second, .val (.int (5 : Int32))] [])) _
    refine XS.goto X105.here hx rfl (pc0 := 23) (pc' := 4) rfl (hb hby d1_23) (by decide) (by decide) ?_
    show Steps p.tables e below (T105.setTop (mkF m 4 #[.val (.ref r0), .val (.long (31 : Int64)), .second, .val (.int (5 : Int32))] [])) _
    refine XS.iloadN X105.here hx rfl (hb hby d1_4) rfl ?_
    show Steps p.tables e below (T105.setTop (mkF m 5 #[.val (.ref r0), .val (.long (31 : Int64)), .second, .val (.int (5 : Int32))] [(.int (5 : Int32))])) _
    refine XS.bipush X105.here hx rfl (hb hby d1_5) ?_
    show Steps p.tables e below (T105.setTop (mkF m 7 #[.val (.ref r0), .val (.long (31 : Int64)), .second, .val (.int (5 : Int32))] [(.int (64 : Int32)), (.int (5 : Int32))])) _
    refine XS.icmpNo X105.here hx rfl (hb hby d1_7) rfl (tlt (by decide : (5 : Int32) < (64 : Int32))).2.1 ?_
    show Steps p.tables e below (T105.setTop (mkF m 10 #[.val (.ref r0), .val (.long (31 : Int64)), .second, .val (.int (5 : Int32))] [])) _
    refine XS.lloadN X105.here hx rfl (hb hby d1_10) rfl ?_
    show Steps p.tables e below (T105.setTop (mkF m 11 #[.val (.ref r0), .val (.long (31 : Int64)), .second, .val (.int (5 : Int32))] [(.long (31 : Int64))])) _
    refine XS.lconst X105.here hx rfl (hb hby d1_11) ?_
    show Steps p.tables e below (T105.setTop (mkF m 12 #[.val (.ref r0), .val (.long (31 : Int64)), .second, .val (.int (5 : Int32))] [(.long (1 : Int64)), (.long (31 : Int64))])) _
    refine XS.iloadN X105.here hx rfl (hb hby d1_12) rfl ?_
    show Steps p.tables e below (T105.setTop (mkF m 13 #[.val (.ref r0), .val (.long (31 : Int64)), .second, .val (.int (5 : Int32))] [(.int (5 : Int32)), (.long (1 : Int64)), (.long (31 : Int64))])) _
    refine XS.lshl X105.here hx rfl (hb hby d1_13) rfl ?_
    show Steps p.tables e below (T105.setTop (mkF m 14 #[.val (.ref r0), .val (.long (31 : Int64)), .second, .val (.int (5 : Int32))] [(.long ((1 : Int64) <<< ((5 : Int32) &&& 0x3f).toInt64)), (.long (31 : Int64))])) _
    refine XS.lor X105.here hx rfl (hb hby d1_14) rfl ?_
    show Steps p.tables e below (T105.setTop (mkF m 15 #[.val (.ref r0), .val (.long (31 : Int64)), .second, .val (.int (5 : Int32))] [(.long ((31 : Int64) ||| ((1 : Int64) <<< ((5 : Int32) &&& 0x3f).toInt64)))])) _
    rw [show ((31 : Int64) ||| ((1 : Int64) <<< ((5 : Int32) &&& 0x3f).toInt64)) = (63 : Int64) from by decide +kernel]
    refine XS.lstoreN X105.here hx rfl (hb hby d1_15) rfl (l' := #[.val (.ref r0), .val (.long (63 : Int64)), .second, .val (.int (5 : Int32))]) rfl ?_
    show Steps p.tables e below (T105.setTop (mkF m 16 #[.val (.ref r0), .val (.long (63 : Int64)), .second, .val (.int (5 : Int32))] [])) _
    refine XS.iloadN X105.here hx rfl (hb hby d1_16) rfl ?_
    show Steps p.tables e below (T105.setTop (mkF m 17 #[.val (.ref r0), .val (.long (63 : Int64)), .second, .val (.int (5 : Int32))] [(.int (5 : Int32))])) _
    refine XS.aloadN X105.here hx rfl (hb hby d1_17) rfl rfl ?_
    show Steps p.tables e below (T105.setTop (mkF m 18 #[.val (.ref r0), .val (.long (63 : Int64)), .second, .val (.int (5 : Int32))] [(.ref r0), (.int (5 : Int32))])) _
    refine st106 _ ?_
    show Steps p.tables e below (T106.setTop (mkF m 21 #[.val (.ref r0), .val (.long (63 : Int64)), .second, .val (.int (5 : Int32))] [(.int (1 : Int32)), (.int (5 : Int32))])) _
    refine XS.iadd X106.here hx rfl (hb hby d1_21) rfl ?_
    show Steps p.tables e below (T106.setTop (mkF m 22 #[.val (.ref r0), .val (.long (63 : Int64)), .second, .val (.int (5 : Int32))] [(.int (6 : Int32))])) _
    refine XS.istoreN X106.here hx rfl (hb hby d1_22) rfl (l' := #[.val (.ref r0), .val (.long (63 : Int64)), .second, .val (.int (6 : Int32))]) rfl ?_
    show Steps p.tables e below (T106.setTop (mkF m 23 #[.val (.ref r0), .val (.long (63 : Int64)), .second, .val (.int (6 : Int32))] [])) _
    refine XS.goto X106.here hx rfl (pc0 := 23) (pc' := 4) rfl (hb hby d1_23) (by decide) (by decide) ?_
    show Steps p.tables e below (T106.setTop (mkF m 4 #[.val (.ref r0), .val (.long (63 : Int64)), .second, .val (.int (6 : Int32))] [])) _
    refine XS.iloadN X106.here hx rfl (hb hby d1_4) rfl ?_
    show Steps p.tables e below (T106.setTop (mkF m 5 #[.val (.ref r0), .val (.long (63 : Int64)), .second, .val (.int (6 : Int32))] [(.int (6 : Int32))])) _
    refine XS.bipush X106.here hx rfl (hb hby d1_5) ?_
    show Steps p.tables e below (T106.setTop (mkF m 7 #[.val (.ref r0), .val (.long (63 : Int64)), .second, .val (.int (6 : Int32))] [(.int (64 : Int32)), (.int (6 : Int32))])) _
    refine XS.icmpNo X106.here hx rfl (hb hby d1_7) rfl (tlt (by decide : (6 : Int32) < (64 : Int32))).2.1 ?_
    show Steps p.tables e below (T106.setTop (mkF m 10 #[.val (.ref r0), .val (.long (63 : Int64)), .second, .val (.int (6 : Int32))] [])) _
    refine XS.lloadN X106.here hx rfl (hb hby d1_10) rfl ?_
    show Steps p.tables e below (T106.setTop (mkF m 11 #[.val (.ref r0), .val (.long (63 : Int64)), .second, .val (.int (6 : Int32))] [(.long (63 : Int64))])) _
    refine XS.lconst X106.here hx rfl (hb hby d1_11) ?_
    show Steps p.tables e below (T106.setTop (mkF m 12 #[.val (.ref r0), .val (.long (63 : Int64)), .second, .val (.int (6 : Int32))] [(.long (1 : Int64)), (.long (63 : Int64))])) _
    refine XS.iloadN X106.here hx rfl (hb hby d1_12) rfl ?_
    show Steps p.tables e below (T106.setTop (mkF m 13 #[.val (.ref r0), .val (.long (63 : Int64)), .second, .val (.int (6 : Int32))] [(.int (6 : Int32)), (.long (1 : Int64)), (.long (63 : Int64))])) _
    refine XS.lshl X106.here hx rfl (hb hby d1_13) rfl ?_
    show Steps p.tables e below (T106.setTop (mkF m 14 #[.val (.ref r0), .val (.long (63 : Int64)), .second, .val (.int (6 : Int32))] [(.long ((1 : Int64) <<< ((6 : Int32) &&& 0x3f).toInt64)), (.long (63 : Int64))])) _
    refine XS.lor X106.here hx rfl (hb hby d1_14) rfl ?_
    show Steps p.tables e below (T106.setTop (mkF m 15 #[.val (.ref r0), .val (.long (63 : Int64)), .second, .val (.int (6 : Int32))] [(.long ((63 : Int64) ||| ((1 : Int64) <<< ((6 : Int32) &&& 0x3f).toInt64)))])) _
    rw [show ((63 : Int64) ||| ((1 : Int64) <<< ((6 : Int32) &&& 0x3f).toInt64)) = (127 : Int64) from by decide +kernel]
    refine XS.lstoreN X106.here hx rfl (hb hby d1_15) rfl (l' := #[.val (.ref r0), .val (.long (127 : Int64)), .second, .val (.int (6 : Int32))]) rfl ?_
    show Steps p.tables e below (T106.setTop (mkF m 16 #[.val (.ref r0), .val (.long (127 : Int64)), .second, .val (.int (6 : Int32))] [])) _
    refine XS.iloadN X106.here hx rfl (hb hby d1_16) rfl ?_
    show Steps p.tables e below (T106.setTop (mkF m 17 #[.val (.ref r0), .val (.long (127 : Int64)), .second, .val (.int (6 : Int32))] [(.int (6 : Int32))])) _
    refine XS.aloadN X106.here hx rfl (hb hby d1_17) rfl rfl ?_
    show Steps p.tables e below (T106.setTop (mkF m 18 #[.val (.ref r0), .val (.long (127 : Int64)), .second, .val (.int (6 : Int32))] [(.ref r0), (.int (6 : Int32))])) _
    refine st107 _ ?_
    show Steps p.tables e below (T107.setTop (mkF m 21 #[.val (.ref r0), .val (.long (127 : Int64)), .second, .val (.int (6 : Int32))] [(.int (1 : Int32)), (.int (6 : Int32))])) _
    refine XS.iadd X107.here hx rfl (hb hby d1_21) rfl ?_
    show Steps p.tables e below (T107.setTop (mkF m 22 #[.val (.ref r0), .val (.long (127 : Int64)), .second, .val (.int (6 : Int32))] [(.int (7 : Int32))])) _
    refine XS.istoreN X107.here hx rfl (hb hby d1_22) rfl (l' := #[.val (.ref r0), .val (.long (127 : Int64)), .second, .val (.int (7 : Int32))]) rfl ?_
    show Steps p.tables e below (T107.setTop (mkF m 23 #[.val (.ref r0), .val (.long (127 : Int64)), .second, .val (.int (7 : Int32))] [])) _
    refine XS.goto X107.here hx rfl (pc0 := 23) (pc' := 4) rfl (hb hby d1_23) (by decide) (by decide) ?_
    show Steps p.tables e below (T107.setTop (mkF m 4 #[.val (.ref r0), .val (.long (127 : Int64)), .second, .val (.int (7 : Int32))] [])) _
    refine XS.iloadN X107.here hx rfl (hb hby d1_4) rfl ?_
    show Steps p.tables e below (T107.setTop (mkF m 5 #[.val (.ref r0), .val (.long (127 : Int64)), .second, .val (.int (7 : Int32))] [(.int (7 : Int32))])) _
    refine XS.bipush X107.here hx rfl (hb hby d1_5) ?_
    show Steps p.tables e below (T107.setTop (mkF m 7 #[.val (.ref r0), .val (.long (127 : Int64)), .second, .val (.int (7 : Int32))] [(.int (64 : Int32)), (.int (7 : Int32))])) _
    refine XS.icmpNo X107.here hx rfl (hb hby d1_7) rfl (tlt (by decide : (7 : Int32) < (64 : Int32))).2.1 ?_
    show Steps p.tables e below (T107.setTop (mkF m 10 #[.val (.ref r0), .val (.long (127 : Int64)), .second, .val (.int (7 : Int32))] [])) _
    refine XS.lloadN X107.here hx rfl (hb hby d1_10) rfl ?_
    show Steps p.tables e below (T107.setTop (mkF m 11 #[.val (.ref r0), .val (.long (127 : Int64)), .second, .val (.int (7 : Int32))] [(.long (127 : Int64))])) _
    refine XS.lconst X107.here hx rfl (hb hby d1_11) ?_
    show Steps p.tables e below (T107.setTop (mkF m 12 #[.val (.ref r0), .val (.long (127 : Int64)), .second, .val (.int (7 : Int32))] [(.long (1 : Int64)), (.long (127 : Int64))])) _
    refine XS.iloadN X107.here hx rfl (hb hby d1_12) rfl ?_
    show Steps p.tables e below (T107.setTop (mkF m 13 #[.val (.ref r0), .val (.long (127 : Int64)), .second, .val (.int (7 : Int32))] [(.int (7 : Int32)), (.long (1 : Int64)), (.long (127 : Int64))])) _
    refine XS.lshl X107.here hx rfl (hb hby d1_13) rfl ?_
    show Steps p.tables e below (T107.setTop (mkF m 14 #[.val (.ref r0), .val (.long (127 : Int64)), .second, .val (.int (7 : Int32))] [(.long ((1 : Int64) <<< ((7 : Int32) &&& 0x3f).toInt64)), (.long (127 : Int64))])) _
    refine XS.lor X107.here hx rfl (hb hby d1_14) rfl ?_
    show Steps p.tables e below (T107.setTop (mkF m 15 #[.val (.ref r0), .val (.long (127 : Int64)), .second, .val (.int (7 : Int32))] [(.long ((127 : Int64) ||| ((1 : Int64) <<< ((7 : Int32) &&& 0x3f).toInt64)))])) _
    rw [show ((127 : Int64) ||| ((1 : Int64) <<< ((7 : Int32) &&& 0x3f).toInt64)) = (255 : Int64) from by decide +kernel]
    refine XS.lstoreN X107.here hx rfl (hb hby d1_15) rfl (l' := #[.val (.ref r0), .val (.long (255 : Int64)), .second, .val (.int (7 : Int32))]) rfl ?_
    show Steps p.tables e below (T107.setTop (mkF m 16 #[.val (.ref r0), .val (.long (255 : Int64)), .second, .val (.int (7 : Int32))] [])) _
    refine XS.iloadN X107.here hx rfl (hb hby d1_16) rfl ?_
    show Steps p.tables e below (T107.setTop (mkF m 17 #[.val (.ref r0), .val (.long (255 : Int64)), .second, .val (.int (7 : Int32))] [(.int (7 : Int32))])) _
    refine XS.aloadN X107.here hx rfl (hb hby d1_17) rfl rfl ?_
    show Steps p.tables e below (T107.setTop (mkF m 18 #[.val (.ref r0), .val (.long (255 : Int64)), .second, .val (.int (7 : Int32))] [(.ref r0), (.int (7 : Int32))])) _
    refine st108 _ ?_
    show Steps p.tables e below (T108.setTop (mkF m 21 #[.val (.ref r0), .val (.long (255 : Int64)), .second, .val (.int (7 : Int32))] [(.int (1 : Int32)), (.int (7 : Int32))])) _
    refine XS.iadd X108.here hx rfl (hb hby d1_21) rfl ?_
    show Steps p.tables e below (T108.setTop (mkF m 22 #[.val (.ref r0), .val (.long (255 : Int64)), .second, .val (.int (7 : Int32))] [(.int (8 : Int32))])) _
    refine XS.istoreN X108.here hx rfl (hb hby d1_22) rfl (l' := #[.val (.ref r0), .val (.long (255 : Int64)), .second, .val (.int (8 : Int32))]) rfl ?_
    show Steps p.tables e below (T108.setTop (mkF m 23 #[.val (.ref r0), .val (.long (255 : Int64)), .second, .val (.int (8 : Int32))] [])) _
    refine XS.goto X108.here hx rfl (pc0 := 23) (pc' := 4) rfl (hb hby d1_23) (by decide) (by decide) ?_
    show Steps p.tables e below (T108.setTop (mkF m 4 #[.val (.ref r0), .val (.long (255 : Int64)), .second, .val (.int (8 : Int32))] [])) _
    refine XS.iloadN X108.here hx rfl (hb hby d1_4) rfl ?_
    show Steps p.tables e below (T108.setTop (mkF m 5 #[.val (.ref r0), .val (.long (255 : Int64)), .second, .val (.int (8 : Int32))] [(.int (8 : Int32))])) _
    refine XS.bipush X108.here hx rfl (hb hby d1_5) ?_
    show Steps p.tables e below (T108.setTop (mkF m 7 #[.val (.ref r0), .val (.long (255 : Int64)), .second, .val (.int (8 : Int32))] [(.int (64 : Int32)), (.int (8 : Int32))])) _
    refine XS.icmpNo X108.here hx rfl (hb hby d1_7) rfl (tlt (by decide : (8 : Int32) < (64 : Int32))).2.1 ?_
    show Steps p.tables e below (T108.setTop (mkF m 10 #[.val (.ref r0), .val (.long (255 : Int64)), .second, .val (.int (8 : Int32))] [])) _
    refine XS.lloadN X108.here hx rfl (hb hby d1_10) rfl ?_
    show Steps p.tables e below (T108.setTop (mkF m 11 #[.val (.ref r0), .val (.long (255 : Int64)), .second, .val (.int (8 : Int32))] [(.long (255 : Int64))])) _
    refine XS.lconst X108.here hx rfl (hb hby d1_11) ?_
    show Steps p.tables e below (T108.setTop (mkF m 12 #[.val (.ref r0), .val (.long (255 : Int64)), .second, .val (.int (8 : Int32))] [(.long (1 : Int64)), (.long (255 : Int64))])) _
    refine XS.iloadN X108.here hx rfl (hb hby d1_12) rfl ?_
    show Steps p.tables e below (T108.setTop (mkF m 13 #[.val (.ref r0), .val (.long (255 : Int64)), .second, .val (.int (8 : Int32))] [(.int (8 : Int32)), (.long (1 : Int64)), (.long (255 : Int64))])) _
    refine XS.lshl X108.here hx rfl (hb hby d1_13) rfl ?_
    show Steps p.tables e below (T108.setTop (mkF m 14 #[.val (.ref r0), .val (.long (255 : Int64)), .second, .val (.int (8 : Int32))] [(.long ((1 : Int64) <<< ((8 : Int32) &&& 0x3f).toInt64)), (.long (255 : Int64))])) _
    refine XS.lor X108.here hx rfl (hb hby d1_14) rfl ?_
    show Steps p.tables e below (T108.setTop (mkF m 15 #[.val (.ref r0), .val (.long (255 : Int64)), .second, .val (.int (8 : Int32))] [(.long ((255 : Int64) ||| ((1 : Int64) <<< ((8 : Int32) &&& 0x3f).toInt64)))])) _
    rw [show ((255 : Int64) ||| ((1 : Int64) <<< ((8 : Int32) &&& 0x3f).toInt64)) = (511 : Int64) from by decide +kernel]
    refine XS.lstoreN X108.here hx rfl (hb hby d1_15) rfl (l' := #[.val (.ref r0), .val (.long (511 : Int64)), .second, .val (.int (8 : Int32))]) rfl ?_
    show Steps p.tables e below (T108.setTop (mkF m 16 #[.val (.ref r0), .val (.long (511 : Int64)), .second, .val (.int (8 : Int32))] [])) _
    refine XS.iloadN X108.here hx rfl (hb hby d1_16) rfl ?_
    show Steps p.tables e below (T108.setTop (mkF m 17 #[.val (.ref r0), .val (.long (511 : Int64)), .second, .val (.int (8 : Int32))] [(.int (8 : Int32))])) _
    refine XS.aloadN X108.here hx rfl (hb hby d1_17) rfl rfl ?_
    show Steps p.tables e below (T108.setTop (mkF m 18 #[.val (.ref r0), .val (.long (511 : Int64)), .second, .val (.int (8 : Int32))] [(.ref r0), (.int (8 : Int32))])) _
    refine st109 _ ?_
    show Steps p.tables e below (T109.setTop (mkF m 21 #[.val (.ref r0), .val (.long (511 : Int64)), .second, .val (.int (8 : Int32))] [(.int (1 : Int32)), (.int (8 : Int32))])) _
    refine XS.iadd X109.here hx rfl (hb hby d1_21) rfl ?_
    show Steps p.tables e below (T109.setTop (mkF m 22 #[.val (.ref r0), .val (.long (511 : Int64)), .second, .val (.int (8 : Int32))] [(.int (9 : Int32))])) _
    refine XS.istoreN X109.here hx rfl (hb hby d1_22) rfl (l' := #[.val (.ref r0), .val (.long (511 : Int64)), .second, .val (.int (9 : Int32))]) rfl ?_
    show Steps p.tables e below (T109.setTop (mkF m 23 #[.val (.ref r0), .val (.long (511 : Int64)), .second, .val (.int (9 : Int32))] [])) _
    refine XS.goto X109.here hx rfl (pc0 := 23) (pc' := 4) rfl (hb hby d1_23) (by decide) (by decide) ?_
    show Steps p.tables e below (T109.setTop (mkF m 4 #[.val (.ref r0), .val (.long (511 : Int64)), .second, .val (.int (9 : Int32))] [])) _
    refine XS.iloadN X109.here hx rfl (hb hby d1_4) rfl ?_
    show Steps p.tables e below (T109.setTop (mkF m 5 #[.val (.ref r0), .val (.long (511 : Int64)), .second, .val (.int (9 : Int32))] [(.int (9 : Int32))])) _
    refine XS.bipush X109.here hx rfl (hb hby d1_5) ?_
    show Steps p.tables e below (T109.setTop (mkF m 7 #[.val (.ref r0), .val (.long (511 : Int64)), .second, .val (.int (9 : Int32))] [(.int (64 : Int32)), (.int (9 : Int32))])) _
    refine XS.icmpNo X109.here hx rfl (hb hby d1_7) rfl (tlt (by decide : (9 : Int32) < (64 : Int32))).2.1 ?_
    show Steps p.tables e below (T109.setTop (mkF m 10 #[.val (.ref r0), .val (.long (511 : Int64)), .second, .val (.int (9 : Int32))] [])) _
    refine XS.lloadN X109.here hx rfl (hb hby d1_10) rfl ?_
    show Steps p.tables e below (T109.setTop (mkF m 11 #[.val (.ref r0), .val (.long (511 : Int64)), .second, .val (.int (9 : Int32))] [(.long (511 : Int64))])) _
    refine XS.lconst X109.here hx rfl (hb hby d1_11) ?_
    show Steps p.tables e below (T109.setTop (mkF m 12 #[.val (.ref r0), .val (.long (511 : Int64)), .second, .val (.int (9 : Int32))] [(.long (1 : Int64)), (.long (511 : Int64))])) _
    refine XS.iloadN X109.here hx rfl (hb hby d1_12) rfl ?_
    show Steps p.tables e below (T109.setTop (mkF m 13 #[.val (.ref r0), .val (.long (511 : Int64)), .second, .val (.int (9 : Int32))] [(.int (9 : Int32)), (.long (1 : Int64)), (.long (511 : Int64))])) _
    refine XS.lshl X109.here hx rfl (hb hby d1_13) rfl ?_
    show Steps p.tables e below (T109.setTop (mkF m 14 #[.val (.ref r0), .val (.long (511 : Int64)), .second, .val (.int (9 : Int32))] [(.long ((1 : Int64) <<< ((9 : Int32) &&& 0x3f).toInt64)), (.long (511 : Int64))])) _
    refine XS.lor X109.here hx rfl (hb hby d1_14) rfl ?_
    show Steps p.tables e below (T109.setTop (mkF m 15 #[.val (.ref r0), .val (.long (511 : Int64)), .second, .val (.int (9 : Int32))] [(.long ((511 : Int64) ||| ((1 : Int64) <<< ((9 : Int32) &&& 0x3f).toInt64)))])) _
    rw [show ((511 : Int64) ||| ((1 : Int64) <<< ((9 : Int32) &&& 0x3f).toInt64)) = (1023 : Int64) from by decide +kernel]
    refine XS.lstoreN X109.here hx rfl (hb hby d1_15) rfl (l' := #[.val (.ref r0), .val (.long (1023 : Int64)), .second, .val (.int (9 : Int32))]) rfl ?_
    show Steps p.tables e below (T109.setTop (mkF m 16 #[.val (.ref r0), .val (.long (1023 : Int64)), .second, .val (.int (9 : Int32))] [])) _
    refine XS.iloadN X109.here hx rfl (hb hby d1_16) rfl ?_
    show Steps p.tables e below (T109.setTop (mkF m 17 #[.val (.ref r0), .val (.long (1023 : Int64)), .second, .val (.int (9 : Int32))] [(.int (9 : Int32))])) _
    refine XS.aloadN X109.here hx rfl (hb hby d1_17) rfl rfl ?_
    show Steps p.tables e below (T109.setTop (mkF m 18 #[.val (.ref r0), .val (.long (1023 : Int64)), .second, .val (.int (9 : Int32))] [(.ref r0), (.int (9 : Int32))])) _
    refine st110 _ ?_
    show Steps p.tables e below (T110.setTop (mkF m 21 #[.val (.ref r0), .val (.long (1023 : Int64)), .second, .val (.int (9 : Int32))] [(.int (1 : Int32)), (.int (9 : Int32))])) _
    refine XS.iadd X110.here hx rfl (hb hby d1_21) rfl ?_
    show Steps p.tables e below (T110.setTop (mkF m 22 #[.val (.ref r0), .val (.long (1023 : Int64)), .second, .val (.int (9 : Int32))] [(.int (10 : Int32))])) _
    refine XS.istoreN X110.here hx rfl (hb hby d1_22) rfl (l' := #[.val (.ref r0), .val (.long (1023 : Int64)), .second, .val (.int (10 : Int32))]) rfl ?_
    show Steps p.tables e below (T110.setTop (mkF m 23 #[.val (.ref r0), .val (.long (1023 : Int64)), .second, .val (.int (10 : Int32))] [])) _
    refine XS.goto X110.here hx rfl (pc0 := 23) (pc' := 4) rfl (hb hby d1_23) (by decide) (by decide) ?_
    show Steps p.tables e below (T110.setTop (mkF m 4 #[.val (.ref r0), .val (.long (1023 : Int64)), .second, .val (.int (10 : Int32))] [])) _
    refine XS.iloadN X110.here hx rfl (hb hby d1_4) rfl ?_
    show Steps p.tables e below (T110.setTop (mkF m 5 #[.val (.ref r0), .val (.long (1023 : Int64)), .second, .val (.int (10 : Int32))] [(.int (10 : Int32))])) _
    refine XS.bipush X110.here hx rfl (hb hby d1_5) ?_
    show Steps p.tables e below (T110.setTop (mkF m 7 #[.val (.ref r0), .val (.long (1023 : Int64)), .second, .val (.int (10 : Int32))] [(.int (64 : Int32)), (.int (10 : Int32))])) _
    refine XS.icmpNo X110.here hx rfl (hb hby d1_7) rfl (tlt (by decide : (10 : Int32) < (64 : Int32))).2.1 ?_
    show Steps p.tables e below (T110.setTop (mkF m 10 #[.val (.ref r0), .val (.long (1023 : Int64)), .second, .val (.int (10 : Int32))] [])) _
    refine XS.lloadN X110.here hx rfl (hb hby d1_10) rfl ?_
    show Steps p.tables e below (T110.setTop (mkF m 11 #[.val (.ref r0), .val (.long (1023 : Int64)), .second, .val (.int (10 : Int32))] [(.long (1023 : Int64))])) _
    refine XS.lconst X110.here hx rfl (hb hby d1_11) ?_
    show Steps p.tables e below (T110.setTop (mkF m 12 #[.val (.ref r0), .val (.long (1023 : Int64)), .second, .val (.int (10 : Int32))] [(.long (1 : Int64)), (.long (1023 : Int64))])) _
    refine XS.iloadN X110.here hx rfl (hb hby d1_12) rfl ?_
    show Steps p.tables e below (T110.setTop (mkF m 13 #[.val (.ref r0), .val (.long (1023 : Int64)), .second, .val (.int (10 : Int32))] [(.int (10 : Int32)), (.long (1 : Int64)), (.long (1023 : Int64))])) _
    refine XS.lshl X110.here hx rfl (hb hby d1_13) rfl ?_
    show Steps p.tables e below (T110.setTop (mkF m 14 #[.val (.ref r0), .val (.long (1023 : Int64)), .second, .val (.int (10 : Int32))] [(.long ((1 : Int64) <<< ((10 : Int32) &&& 0x3f).toInt64)), (.long (1023 : Int64))])) _
    refine XS.lor X110.here hx rfl (hb hby d1_14) rfl ?_
    show Steps p.tables e below (T110.setTop (mkF m 15 #[.val (.ref r0), .val (.long (1023 : Int64)), .second, .val (.int (10 : Int32))] [(.long ((1023 : Int64) ||| ((1 : Int64) <<< ((10 : Int32) &&& 0x3f).toInt64)))])) _
    rw [show ((1023 : Int64) ||| ((1 : Int64) <<< ((10 : Int32) &&& 0x3f).toInt64)) = (2047 : Int64) from by decide +kernel]
    refine XS.lstoreN X110.here hx rfl (hb hby d1_15) rfl (l' := #[.val (.ref r0), .val (.long (2047 : Int64)), .second, .val (.int (10 : Int32))]) rfl ?_
    show Steps p.tables e below (T110.setTop (mkF m 16 #[.val (.ref r0), .val (.long (2047 : Int64)), .second, .val (.int (10 : Int32))] [])) _
    refine XS.iloadN X110.here hx rfl (hb hby d1_16) rfl ?_
    show Steps p.tables e below (T110.setTop (mkF m 17 #[.val (.ref r0), .val (.long (2047 : Int64)), .second, .val (.int (10 : Int32))] [(.int (10 : Int32))])) _
    refine XS.aloadN X110.here hx rfl (hb hby d1_17) rfl rfl ?_
    show Steps p.tables e below (T110.setTop (mkF m 18 #[.val (.ref r0), .val (.long (2047 : Int64)), .second, .val (.int (10 : Int32))] [(.ref r0), (.int (10 : Int32))])) _
    refine st111 _ ?_
    show Steps p.tables e below (T111.setTop (mkF m 21 #[.val (.ref r0), .val (.long (2047 : Int64)), .second, .val (.int (10 : Int32))] [(.int (1 : Int32)), (.int (10 : Int32))])) _
    refine XS.iadd X111.here hx rfl (hb hby d1_21) rfl ?_
    show Steps p.tables e below (T111.setTop (mkF m 22 #[.val (.ref r0), .val (.long (2047 : Int64)), .second, .val (.int (10 : Int32))] [(.int (11 : Int32))])) _
    refine XS.istoreN X111.here hx rfl (hb hby d1_22) rfl (l' := #[.val (.ref r0), .val (.long (2047 : Int64)), .second, .val (.int (11 : Int32))]) rfl ?_
    show Steps p.tables e below (T111.setTop (mkF m 23 #[.val (.ref r0), .val (.long (2047 : Int64)), .second, .val (.int (11 : Int32))] [])) _
    refine XS.goto X111.here hx rfl (pc0 := 23) (pc' := 4) rfl (hb hby d1_23) (by decide) (by decide) ?_
    show Steps p.tables e below (T111.setTop (mkF m 4 #[.val (.ref r0), .val (.long (2047 : Int64)), .second, .val (.int (11 : Int32))] [])) _
    refine XS.iloadN X111.here hx rfl (hb hby d1_4) rfl ?_
    show Steps p.tables e below (T111.setTop (mkF m 5 #[.val (.ref r0), .val (.long (2047 : Int64)), .second, .val (.int (11 : Int32))] [(.int (11 : Int32))])) _
    refine XS.bipush X111.here hx rfl (hb hby d1_5) ?_
    show Steps p.tables e below (T111.setTop (mkF m 7 #[.val (.ref r0), .val (.long (2047 : Int64)), .second, .val (.int (11 : Int32))] [(.int (64 : Int32)), (.int (11 : Int32))])) _
    refine XS.icmpNo X111.here hx rfl (hb hby d1_7) rfl (tlt (by decide : (11 : Int32) < (64 : Int32))).2.1 ?_
    show Steps p.tables e below (T111.setTop (mkF m 10 #[.val (.ref r0), .val (.long (2047 : Int64)), .second, .val (.int (11 : Int32))] [])) _
    refine XS.lloadN X111.here hx rfl (hb hby d1_10) rfl ?_
    show Steps p.tables e below (T111.setTop (mkF m 11 #[.val (.ref r0), .val (.long (2047 : Int64)), .second, .val (.int (11 : Int32))] [(.long (2047 : Int64))])) _
    refine XS.lconst X111.here hx rfl (hb hby d1_11) ?_
    show Steps p.tables e below (T111.setTop (mkF m 12 #[.val (.ref r0), .val (.long (2047 : Int64)), .second, .val (.int (11 : Int32))] [(.long (1 : Int64)), (.long (2047 : Int64))])) _
    refine XS.iloadN X111.here hx rfl (hb hby d1_12) rfl ?_
    show Steps p.tables e below (T111.setTop (mkF m 13 #[.val (.ref r0), .val (.long (2047 : Int64)), .second, .val (.int (11 : Int32))] [(.int (11 : Int32)), (.long (1 : Int64)), (.long (2047 : Int64))])) _
    refine XS.lshl X111.here hx rfl (hb hby d1_13) rfl ?_
    show Steps p.tables e below (T111.setTop (mkF m 14 #[.val (.ref r0), .val (.long (2047 : Int64)), .second, .val (.int (11 : Int32))] [(.long ((1 : Int64) <<< ((11 : Int32) &&& 0x3f).toInt64)), (.long (2047 : Int64))])) _
    refine XS.lor X111.here hx rfl (hb hby d1_14) rfl ?_
    show Steps p.tables e below (T111.setTop (mkF m 15 #[.val (.ref r0), .val (.long (2047 : Int64)), .second, .val (.int (11 : Int32))] [(.long ((2047 : Int64) ||| ((1 : Int64) <<< ((11 : Int32) &&& 0x3f).toInt64)))])) _
    rw [show ((2047 : Int64) ||| ((1 : Int64) <<< ((11 : Int32) &&& 0x3f).toInt64)) = (4095 : Int64) from by decide +kernel]
    refine XS.lstoreN X111.here hx rfl (hb hby d1_15) rfl (l' := #[.val (.ref r0), .val (.long (4095 : Int64)), .second, .val (.int (11 : Int32))]) rfl ?_
    show Steps p.tables e below (T111.setTop (mkF m 16 #[.val (.ref r0), .val (.long (4095 : Int64)), .second, .val (.int (11 : Int32))] [])) _
    refine XS.iloadN X111.here hx rfl (hb hby d1_16) rfl ?_
    show Steps p.tables e below (T111.setTop (mkF m 17 #[.val (.ref r0), .val (.long (4095 : Int64)), .second, .val (.int (11 : Int32))] [(.int (11 : Int32))])) _
    refine XS.aloadN X111.here hx rfl (hb hby d1_17) rfl rfl ?_
    show Steps p.tables e below (T111.setTop (mkF m 18 #[.val (.ref r0), .val (.long (4095 : Int64)), .second, .val (.int (11 : Int32))] [(.ref r0), (.int (11 : Int32))])) _
    refine st112 _ ?_
    show Steps p.tables e below (T112.setTop (mkF m 21 #[.val (.ref r0), .val (.long (4095 : Int64)), .second, .val (.int (11 : Int32))] [(.int (1 : Int32)), (.int (11 : Int32))])) _
    refine XS.iadd X112.here hx rfl (hb hby d1_21) rfl ?_
    show Steps p.tables e below (T112.setTop (mkF m 22 #[.val (.ref r0), .val (.long (4095 : Int64)), .second, .val (.int (11 : Int32))] [(.int (12 : Int32))])) _
    refine XS.istoreN X112.here hx rfl (hb hby d1_22) rfl (l' := #[.val (.ref r0), .val (.long (4095 : Int64)), .second, .val (.int (12 : Int32))]) rfl ?_
    show Steps p.tables e below (T112.setTop (mkF m 23 #[.val (.ref r0), .val (.long (4095 : Int64)), .second, .val (.int (12 : Int32))] [])) _
    refine XS.goto X112.here hx rfl (pc0 := 23) (pc' := 4) rfl (hb hby d1_23) (by decide) (by decide) ?_
    show Steps p.tables e below (T112.setTop (mkF m 4 #[.val (.ref r0), .val (.long (4095 : Int64)), .second, .val (.int (12 : Int32))] [])) _
    refine XS.iloadN X112.here hx rfl (hb hby d1_4) rfl ?_
    show Steps p.tables e below (T112.setTop (mkF m 5 #[.val (.ref r0), .val (.long (4095 : Int64)), .second, .val (.int (12 : Int32))] [(.int (12 : Int32))])) _
    refine XS.bipush X112.here hx rfl (hb hby d1_5) ?_
    show Steps p.tables e below (T112.setTop (mkF m 7 #[.val (.ref r0), .val (.long (4095 : Int64)), .second, .val (.int (12 : Int32))] [(.int (64 : Int32)), (.int (12 : Int32))])) _
    refine XS.icmpNo X112.here hx rfl (hb hby d1_7) rfl (tlt (by decide : (12 : Int32) < (64 : Int32))).2.1 ?_
    show Steps p.tables e below (T112.setTop (mkF m 10 #[.val (.ref r0), .val (.long (4095 : Int64)), .second, .val (.int (12 : Int32))] [])) _
    refine XS.lloadN X112.here hx rfl (hb hby d1_10) rfl ?_
    show Steps p.tables e below (T112.setTop (mkF m 11 #[.val (.ref r0), .val (.long (4095 : Int64)), .second, .val (.int (12 : Int32))] [(.long (4095 : Int64))])) _
    refine XS.lconst X112.here hx rfl (hb hby d1_11) ?_
    show Steps p.tables e below (T112.setTop (mkF m 12 #[.val (.ref r0), .val (.long (4095 : Int64)), .second, .val (.int (12 : Int32))] [(.long (1 : Int64)), (.long (4095 : Int64))])) _
    refine XS.iloadN X112.here hx rfl (hb hby d1_12) rfl ?_
    show Steps p.tables e below (T112.setTop (mkF m 13 #[.val (.ref r0), .val (.long (4095 : Int64)), .second, .val (.int (12 : Int32))] [(.int (12 : Int32)), (.long (1 : Int64)), (.long (4095 : Int64))])) _
    refine XS.lshl X112.here hx rfl (hb hby d1_13) rfl ?_
    show Steps p.tables e below (T112.setTop (mkF m 14 #[.val (.ref r0), .val (.long (4095 : Int64)), .second, .val (.int (12 : Int32))] [(.long ((1 : Int64) <<< ((12 : Int32) &&& 0x3f).toInt64)), (.long (4095 : Int64))])) _
    refine XS.lor X112.here hx rfl (hb hby d1_14) rfl ?_
    show Steps p.tables e below (T112.setTop (mkF m 15 #[.val (.ref r0), .val (.long (4095 : Int64)), .second, .val (.int (12 : Int32))] [(.long ((4095 : Int64) ||| ((1 : Int64) <<< ((12 : Int32) &&& 0x3f).toInt64)))])) _
    rw [show ((4095 : Int64) ||| ((1 : Int64) <<< ((12 : Int32) &&& 0x3f).toInt64)) = (8191 : Int64) from by decide +kernel]
    refine XS.lstoreN X112.here hx rfl (hb hby d1_15) rfl (l' := #[.val (.ref r0), .val (.long (8191 : Int64)), .second, .val (.int (12 : Int32))]) rfl ?_
    show Steps p.tables e below (T112.setTop (mkF m 16 #[.val (.ref r0), .val (.long (8191 : Int64)), .second, .val (.int (12 : Int32))] [])) _
    refine XS.iloadN X112.here hx rfl (hb hby d1_16) rfl ?_
    show Steps p.tables e below (T112.setTop (mkF m 17 #[.val (.ref r0), .val (.long (8191 : Int64)), .second, .val (.int (12 : Int32))] [(.int (12 : Int32))])) _
    refine XS.aloadN X112.here hx rfl (hb hby d1_17) rfl rfl ?_
    show Steps p.tables e below (T112.setTop (mkF m 18 #[.val (.ref r0), .val (.long (8191 : Int64)), .second, .val (.int (12 : Int32))] [(.ref r0), (.int (12 : Int32))])) _
    refine st113 _ ?_
    show Steps p.tables e below (T113.setTop (mkF m 21 #[.val (.ref r0), .val (.long (8191 : Int64)), .second, .val (.int (12 : Int32))] [(.int (1 : Int32)), (.int (12 : Int32))])) _
    refine XS.iadd X113.here hx rfl (hb hby d1_21) rfl ?_
    show Steps p.tables e below (T113.setTop (mkF m 22 #[.val (.ref r0), .val (.long (8191 : Int64)), .second, .val (.int (12 : Int32))] [(.int (13 : Int32))])) _
    refine XS.istoreN X113.here hx rfl (hb hby d1_22) rfl (l' := #[.val (.ref r0), .val (.long (8191 : Int64)), .second, .val (.int (13 : Int32))]) rfl ?_
    show Steps p.tables e below (T113.setTop (mkF m 23 #[.val (.ref r0), .val (.long (8191 : Int64)), .second, .val (.int (13 : Int32))] [])) _
    refine XS.goto X113.here hx rfl (pc0 := 23) (pc' := 4) rfl (hb hby d1_23) (by decide) (by decide) ?_
    show Steps p.tables e below (T113.setTop (mkF m 4 #[.val (.ref r0), .val (.long (8191 : Int64)), .second, .val (.int (13 : Int32))] [])) _
    refine XS.iloadN X113.here hx rfl (hb hby d1_4) rfl ?_
    show Steps p.tables e below (T113.setTop (mkF m 5 #[.val (.ref r0), .val (.long (8191 : Int64)), .second, .val (.int (13 : Int32))] [(.int (13 : Int32))])) _
    refine XS.bipush X113.here hx rfl (hb hby d1_5) ?_
    show Steps p.tables e below (T113.setTop (mkF m 7 #[.val (.ref r0), .val (.long (8191 : Int64)), .second, .val (.int (13 : Int32))] [(.int (64 : Int32)), (.int (13 : Int32))])) _
    refine XS.icmpNo X113.here hx rfl (hb hby d1_7) rfl (tlt (by decide : (13 : Int32) < (64 : Int32))).2.1 ?_
    show Steps p.tables e below (T113.setTop (mkF m 10 #[.val (.ref r0), .val (.long (8191 : Int64)), .second, .val (.int (13 : Int32))] [])) _
    refine XS.lloadN X113.here hx rfl (hb hby d1_10) rfl ?_
    show Steps p.tables e below (T113.setTop (mkF m 11 #[.val (.ref r0), .val (.long (8191 : Int64)), .second, .val (.int (13 : Int32))] [(.long (8191 : Int64))])) _
    refine XS.lconst X113.here hx rfl (hb hby d1_11) ?_
    show Steps p.tables e below (T113.setTop (mkF m 12 #[.val (.ref r0), .val (.long (8191 : Int64)), .second, .val (.int (13 : Int32))] [(.long (1 : Int64)), (.long (8191 : Int64))])) _
    refine XS.iloadN X113.here hx rfl (hb hby d1_12) rfl ?_
    show Steps p.tables e below (T113.setTop (mkF m 13 #[.val (.ref r0), .val (.long (8191 : Int64)), .second, .val (.int (13 : Int32))] [(.int (13 : Int32)), (.long (1 : Int64)), (.long (8191 : Int64))])) _
    refine XS.lshl X113.here hx rfl (hb hby d1_13) rfl ?_
    show Steps p.tables e below (T113.setTop (mkF m 14 #[.val (.ref r0), .val (.long (8191 : Int64)), .second, .val (.int (13 : Int32))] [(.long ((1 : Int64) <<< ((13 : Int32) &&& 0x3f).toInt64)), (.long (8191 : Int64))])) _
    refine XS.lor X113.here hx rfl (hb hby d1_14) rfl ?_
    show Steps p.tables e below (T113.setTop (mkF m 15 #[.val (.ref r0), .val (.long (8191 : Int64)), .second, .val (.int (13 : Int32))] [(.long ((8191 : Int64) ||| ((1 : Int64) <<< ((13 : Int32) &&& 0x3f).toInt64)))])) _
    rw [show ((8191 : Int64) ||| ((1 : Int64) <<< ((13 : Int32) &&& 0x3f).toInt64)) = (16383 : Int64) from by decide +kernel]
    refine XS.lstoreN X113.here hx rfl (hb hby d1_15) rfl (l' := #[.val (.ref r0), .val (.long (16383 : Int64)), .second, .val (.int (13 : Int32))]) rfl ?_
    show Steps p.tables e below (T113.setTop (mkF m 16 #[.val (.ref r0), .val (.long (16383 : Int64)), .second, .val (.int (13 : Int32))] [])) _
    refine XS.iloadN X113.here hx rfl (hb hby d1_16) rfl ?_
    show Steps p.tables e below (T113.setTop (mkF m 17 #[.val (.ref r0), .val (.long (16383 : Int64)), .second, .val (.int (13 : Int32))] [(.int (13 : Int32))])) _
    refine XS.aloadN X113.here hx rfl (hb hby d1_17) rfl rfl ?_
    show Steps p.tables e below (T113.setTop (mkF m 18 #[.val (.ref r0), .val (.long (16383 : Int64)), .second, .val (.int (13 : Int32))] [(.ref r0), (.int (13 : Int32))])) _
    refine st114 _ ?_
    show Steps p.tables e below (T114.setTop (mkF m 21 #[.val (.ref r0), .val (.long (16383 : Int64)), .second, .val (.int (13 : Int32))] [(.int (1 : Int32)), (.int (13 : Int32))])) _
    refine XS.iadd X114.here hx rfl (hb hby d1_21) rfl ?_
    show Steps p.tables e below (T114.setTop (mkF m 22 #[.val (.ref r0), .val (.long (16383 : Int64)), .second, .val (.int (13 : Int32))] [(.int (14 : Int32))])) _
    refine XS.istoreN X114.here hx rfl (hb hby d1_22) rfl (l' := #[.val (.ref r0), .val (.long (16383 : Int64)), .second, .val (.int (14 : Int32))]) rfl ?_
    show Steps p.tables e below (T114.setTop (mkF m 23 #[.val (.ref r0), .val (.long (16383 : Int64)), .second, .val (.int (14 : Int32))] [])) _
    refine XS.goto X114.here hx rfl (pc0 := 23) (pc' := 4) rfl (hb hby d1_23) (by decide) (by decide) ?_
    show Steps p.tables e below (T114.setTop (mkF m 4 #[.val (.ref r0), .val (.long (16383 : Int64)), .second, .val (.int (14 : Int32))] [])) _
    refine XS.iloadN X114.here hx rfl (hb hby d1_4) rfl ?_
    show Steps p.tables e below (T114.setTop (mkF m 5 #[.val (.ref r0), .val (.long (16383 : Int64)), .second, .val (.int (14 : Int32))] [(.int (14 : Int32))])) _
    refine XS.bipush X114.here hx rfl (hb hby d1_5) ?_
    show Steps p.tables e below (T114.setTop (mkF m 7 #[.val (.ref r0), .val (.long (16383 : Int64)), .second, .val (.int (14 : Int32))] [(.int (64 : Int32)), (.int (14 : Int32))])) _
    refine XS.icmpNo X114.here hx rfl (hb hby d1_7) rfl (tlt (by decide : (14 : Int32) < (64 : Int32))).2.1 ?_
    show Steps p.tables e below (T114.setTop (mkF m 10 #[.val (.ref r0), .val (.long (16383 : Int64)), .second, .val (.int (14 : Int32))] [])) _
    refine XS.lloadN X114.here hx rfl (hb hby d1_10) rfl ?_
    show Steps p.tables e below (T114.setTop (mkF m 11 #[.val (.ref r0), .val (.long (16383 : Int64)), .second, .val (.int (14 : Int32))] [(.long (16383 : Int64))])) _
    refine XS.lconst X114.here hx rfl (hb hby d1_11) ?_
    show Steps p.tables e below (T114.setTop (mkF m 12 #[.val (.ref r0), .val (.long (16383 : Int64)), .second, .val (.int (14 : Int32))] [(.long (1 : Int64)), (.long (16383 : Int64))])) _
    refine XS.iloadN X114.here hx rfl (hb hby d1_12) rfl ?_
    show Steps p.tables e below (T114.setTop (mkF m 13 #[.val (.ref r0), .val (.long (16383 : Int64)), .second, .val (.int (14 : Int32))] [(.int (14 : Int32)), (.long (1 : Int64)), (.long (16383 : Int64))])) _
    refine XS.lshl X114.here hx rfl (hb hby d1_13) rfl ?_
    show Steps p.tables e below (T114.setTop (mkF m 14 #[.val (.ref r0), .val (.long (16383 : Int64)), .second, .val (.int (14 : Int32))] [(.long ((1 : Int64) <<< ((14 : Int32) &&& 0x3f).toInt64)), (.long (16383 : Int64))])) _
    refine XS.lor X114.here hx rfl (hb hby d1_14) rfl ?_
    show Steps p.tables e below (T114.setTop (mkF m 15 #[.val (.ref r0), .val (.long (16383 : Int64)), .second, .val (.int (14 : Int32))] [(.long ((16383 : Int64) ||| ((1 : Int64) <<< ((14 : Int32) &&& 0x3f).toInt64)))])) _
    rw [show ((16383 : Int64) ||| ((1 : Int64) <<< ((14 : Int32) &&& 0x3f).toInt64)) = (32767 : Int64) from by decide +kernel]
    refine XS.lstoreN X114.here hx rfl (hb hby d1_15) rfl (l' := #[.val (.ref r0), .val (.long (32767 : Int64)), .second, .val (.int (14 : Int32))]) rfl ?_
    show Steps p.tables e below (T114.setTop (mkF m 16 #[.val (.ref r0), .val (.long (32767 : Int64)), .second, .val (.int (14 : Int32))] [])) _
    refine XS.iloadN X114.here hx rfl (hb hby d1_16) rfl ?_
    show Steps p.tables e below (T114.setTop (mkF m 17 #[.val (.ref r0), .val (.long (32767 : Int64)), .second, .val (.int (14 : Int32))] [(.int (14 : Int32))])) _
    refine XS.aloadN X114.here hx rfl (hb hby d1_17) rfl rfl ?_
    show Steps p.tables e below (T114.setTop (mkF m 18 #[.val (.ref r0), .val (.long (32767 : Int64)), .second, .val (.int (14 : Int32))] [(.ref r0), (.int (14 : Int32))])) _
    refine st115 _ ?_
    show Steps p.tables e below (T115.setTop (mkF m 21 #[.val (.ref r0), .val (.long (32767 : Int64)), .second, .val (.int (14 : Int32))] [(.int (1 : Int32)), (.int (14 : Int32))])) _
    refine XS.iadd X115.here hx rfl (hb hby d1_21) rfl ?_
    show Steps p.tables e below (T115.setTop (mkF m 22 #[.val (.ref r0), .val (.long (32767 : Int64)), .second, .val (.int (14 : Int32))] [(.int (15 : Int32))])) _
    refine XS.istoreN X115.here hx rfl (hb hby d1_22) rfl (l' := #[.val (.ref r0), .val (.long (32767 : Int64)), .second, .val (.int (15 : Int32))]) rfl ?_
    show Steps p.tables e below (T115.setTop (mkF m 23 #[.val (.ref r0), .val (.long (32767 : Int64)), .second, .val (.int (15 : Int32))] [])) _
    refine XS.goto X115.here hx rfl (pc0 := 23) (pc' := 4) rfl (hb hby d1_23) (by decide) (by decide) ?_
    show Steps p.tables e below (T115.setTop (mkF m 4 #[.val (.ref r0), .val (.long (32767 : Int64)), .second, .val (.int (15 : Int32))] [])) _
    refine XS.iloadN X115.here hx rfl (hb hby d1_4) rfl ?_
    show Steps p.tables e below (T115.setTop (mkF m 5 #[.val (.ref r0), .val (.long (32767 : Int64)), .second, .val (.int (15 : Int32))] [(.int (15 : Int32))])) _
    refine XS.bipush X115.here hx rfl (hb hby d1_5) ?_
    show Steps p.tables e below (T115.setTop (mkF m 7 #[.val (.ref r0), .val (.long (32767 : Int64)), .second, .val (.int (15 : Int32))] [(.int (64 : Int32)), (.int (15 : Int32))])) _
    refine XS.icmpNo X115.here hx rfl (hb hby d1_7) rfl (tlt (by decide : (15 : Int32) < (64 : Int32))).2.1 ?_
    show Steps p.tables e below (T115.setTop (mkF m 10 #[.val (.ref r0), .val (.long (32767 : Int64)), .second, .val (.int (15 : Int32))] [])) _
    refine XS.lloadN X115.here hx rfl (hb hby d1_10) rfl ?_
    show Steps p.tables e below (T115.setTop (mkF m 11 #[.val (.ref r0), .val (.long (32767 : Int64)), .second, .val (.int (15 : Int32))] [(.long (32767 : Int64))])) _
    refine XS.lconst X115.here hx rfl (hb hby d1_11) ?_
    show Steps p.tables e below (T115.setTop (mkF m 12 #[.val (.ref r0), .val (.long (32767 : Int64)), .second, .val (.int (15 : Int32))] [(.long (1 : Int64)), (.long (32767 : Int64))])) _
    refine XS.iloadN X115.here hx rfl (hb hby d1_12) rfl ?_
    show Steps p.tables e below (T115.setTop (mkF m 13 #[.val (.ref r0), .val (.long (32767 : Int64)), .second, .val (.int (15 : Int32))] [(.int (15 : Int32)), (.long (1 : Int64)), (.long (32767 : Int64))])) _
    refine XS.lshl X115.here hx rfl (hb hby d1_13) rfl ?_
    show Steps p.tables e below (T115.setTop (mkF m 14 #[.val (.ref r0), .val (.long (32767 : Int64)), .second, .val (.int (15 : Int32))] [(.long ((1 : Int64) <<< ((15 : Int32) &&& 0x3f).toInt64)), (.long (32767 : Int64))])) _
    refine XS.lor X115.here hx rfl (hb hby d1_14) rfl ?_
    show Steps p.tables e below (T115.setTop (mkF m 15 #[.val (.ref r0), .val (.long (32767 : Int64)), .second, .val (.int (15 : Int32))] [(.long ((32767 : Int64) ||| ((1 : Int64) <<< ((15 : Int32) &&& 0x3f).toInt64)))])) _
    rw [show ((32767 : Int64) ||| ((1 : Int64) <<< ((15 : Int32) &&& 0x3f).toInt64)) = (65535 : Int64) from by decide +kernel]
    refine XS.lstoreN X115.here hx rfl (hb hby d1_15) rfl (l' := #[.val (.ref r0), .val (.long (65535 : Int64)), .second, .val (.int (15 : Int32))]) rfl ?_
    show Steps p.tables e below (T115.setTop (mkF m 16 #[.val (.ref r0), .val (.long (65535 : Int64)), .second, .val (.int (15 : Int32))] [])) _
    refine XS.iloadN X115.here hx rfl (hb hby d1_16) rfl ?_
    show Steps p.tables e below (T115.setTop (mkF m 17 #[.val (.ref r0), .val (.long (65535 : Int64)), .second, .val (.int (15 : Int32))] [(.int (15 : Int32))])) _
    refine XS.aloadN X115.here hx rfl (hb hby d1_17) rfl rfl ?_
    show Steps p.tables e below (T115.setTop (mkF m 18 #[.val (.ref r0), .val (.long (65535 : Int64)), .second, .val (.int (15 : Int32))] [(.ref r0), (.int (15 : Int32))])) _
    refine st116 _ ?_
    show Steps p.tables e below (T116.setTop (mkF m 21 #[.val (.ref r0), .val (.long (65535 : Int64)), .second, .val (.int (15 : Int32))] [(.int (1 : Int32)), (.int (15 : Int32))])) _
    refine XS.iadd X116.here hx rfl (hb hby d1_21) rfl ?_
    show Steps p.tables e below (T116.setTop (mkF m 22 #[.val (.ref r0), .val (.long (65535 : Int64)), .second, .val (.int (15 : Int32))] [(.int (16 : Int32))])) _
    refine XS.istoreN X116.here hx rfl (hb hby d1_22) rfl (l' := #[.val (.ref r0), .val (.long (65535 : Int64)), .second, .val (.int (16 : Int32))]) rfl ?_
    show Steps p.tables e below (T116.setTop (mkF m 23 #[.val (.ref r0), .val (.long (65535 : Int64)), .second, .val (.int (16 : Int32))] [])) _
    refine XS.goto X116.here hx rfl (pc0 := 23) (pc' := 4) rfl (hb hby d1_23) (by decide) (by decide) ?_
    show Steps p.tables e below (T116.setTop (mkF m 4 #[.val (.ref r0), .val (.long (65535 : Int64)), .second, .val (.int (16 : Int32))] [])) _
    refine XS.iloadN X116.here hx rfl (hb hby d1_4) rfl ?_
    show Steps p.tables e below (T116.setTop (mkF m 5 #[.val (.ref r0), .val (.long (65535 : Int64)), .second, .val (.int (16 : Int32))] [(.int (16 : Int32))])) _
    refine XS.bipush X116.here hx rfl (hb hby d1_5) ?_
    show Steps p.tables e below (T116.setTop (mkF m 7 #[.val (.ref r0), .val (.long (65535 : Int64)), .second, .val (.int (16 : Int32))] [(.int (64 : Int32)), (.int (16 : Int32))])) _
    refine XS.icmpNo X116.here hx rfl (hb hby d1_7) rfl (tlt (by decide : (16 : Int32) < (64 : Int32))).2.1 ?_
    show Steps p.tables e below (T116.setTop (mkF m 10 #[.val (.ref r0), .val (.long (65535 : Int64)), .second, .val (.int (16 : Int32))] [])) _
    refine XS.lloadN X116.here hx rfl (hb hby d1_10) rfl ?_
    show Steps p.tables e below (T116.setTop (mkF m 11 #[.val (.ref r0), .val (.long (65535 : Int64)), .second, .val (.int (16 : Int32))] [(.long (65535 : Int64))])) _
    refine XS.lconst X116.here hx rfl (hb hby d1_11) ?_
    show Steps p.tables e below (T116.setTop (mkF m 12 #[.val (.ref r0), .val (.long (65535 : Int64)), .second, .val (.int (16 : Int32))] [(.long (1 : Int64)), (.long (65535 : Int64))])) _
    refine XS.iloadN X116.here hx rfl (hb hby d1_12) rfl ?_
    show Steps p.tables e below (T116.setTop (mkF m 13 #[.val (.ref r0), .val (.long (65535 : Int64)), .second, .val (.int (16 : Int32))] [(.int (16 : Int32)), (.long (1 : Int64)), (.long (65535 : Int64))])) _
    refine XS.lshl X116.here hx rfl (hb hby d1_13) rfl ?_
    show Steps p.tables e below (T116.setTop (mkF m 14 #[.val (.ref r0), .val (.long (65535 : Int64)), .second, .val (.int (16 : Int32))] [(.long ((1 : Int64) <<< ((16 : Int32) &&& 0x3f).toInt64)), (.long (65535 : Int64))])) _
    refine XS.lor X116.here hx rfl (hb hby d1_14) rfl ?_
    show Steps p.tables e below (T116.setTop (mkF m 15 #[.val (.ref r0), .val (.long (65535 : Int64)), .second, .val (.int (16 : Int32))] [(.long ((65535 : Int64) ||| ((1 : Int64) <<< ((16 : Int32) &&& 0x3f).toInt64)))])) _
    rw [show ((65535 : Int64) ||| ((1 : Int64) <<< ((16 : Int32) &&& 0x3f).toInt64)) = (131071 : Int64) from by decide +kernel]
    refine XS.lstoreN X116.here hx rfl (hb hby d1_15) rfl (l' := #[.val (.ref r0), .val (.long (131071 : Int64)), .second, .val (.int (16 : Int32))]) rfl ?_
    show Steps p.tables e below (T116.setTop (mkF m 16 #[.val (.ref r0), .val (.long (131071 : Int64)), .second, .val (.int (16 : Int32))] [])) _
    refine XS.iloadN X116.here hx rfl (hb hby d1_16) rfl ?_
    show Steps p.tables e below (T116.setTop (mkF m 17 #[.val (.ref r0), .val (.long (131071 : Int64)), .second, .val (.int (16 : Int32))] [(.int (16 : Int32))])) _
    refine XS.aloadN X116.here hx rfl (hb hby d1_17) rfl rfl ?_
    show Steps p.tables e below (T116.setTop (mkF m 18 #[.val (.ref r0), .val (.long (131071 : Int64)), .second, .val (.int (16 : Int32))] [(.ref r0), (.int (16 : Int32))])) _
    refine st117 _ ?_
    show Steps p.tables e below (T117.setTop (mkF m 21 #[.val (.ref r0), .val (.long (131071 : Int64)), .second, .val (.int (16 : Int32))] [(.int (1 : Int32)), (.int (16 : Int32))])) _
    refine XS.iadd X117.here hx rfl (hb hby d1_21) rfl ?_
    show Steps p.tables e below (T117.setTop (mkF m 22 #[.val (.ref r0), .val (.long (131071 : Int64)), .second, .val (.int (16 : Int32))] [(.int (17 : Int32))])) _
    refine XS.istoreN X117.here hx rfl (hb hby d1_22) rfl (l' := #[.val (.ref r0), .val (.long (131071 : Int64)), .second, .val (.int (17 : Int32))]) rfl ?_
    show Steps p.tables e below (T117.setTop (mkF m 23 #[.val (.ref r0), .val (.long (131071 : Int64)), .second, .val (.int (17 : Int32))] [])) _
    refine XS.goto X117.here hx rfl (pc0 := 23) (pc' := 4) rfl (hb hby d1_23) (by decide) (by decide) ?_
    show Steps p.tables e below (T117.setTop (mkF m 4 #[.val (.ref r0), .val (.long (131071 : Int64)), .second, .val (.int (17 : Int32))] [])) _
    refine XS.iloadN X117.here hx rfl (hb hby d1_4) rfl ?_
    show Steps p.tables e below (T117.setTop (mkF m 5 #[.val (.ref r0), .val (.long (131071 : Int64)), .second, .val (.int (17 : Int32))] [(.int (17 : Int32))])) _
    refine XS.bipush X117.here hx rfl (hb hby d1_5) ?_
    show Steps p.tables e below (T117.setTop (mkF m 7 #[.val (.ref r0), .val (.long (131071 : Int64)), .second, .val (.int (17 : Int32))] [(.int (64 : Int32)), (.int (17 : Int32))])) _
    refine XS.icmpNo X117.here hx rfl (hb hby d1_7) rfl (tlt (by decide : (17 : Int32) < (64 : Int32))).2.1 ?_
    show Steps p.tables e below (T117.setTop (mkF m 10 #[.val (.ref r0), .val (.long (131071 : Int64)), .second, .val (.int (17 : Int32))] [])) _
    refine XS.lloadN X117.here hx rfl (hb hby d1_10) rfl ?_
    show Steps p.tables e below (T117.setTop (mkF m 11 #[.val (.ref r0), .val (.long (131071 : Int64)), .second, .val (.int (17 : Int32))] [(.long (131071 : Int64))])) _
    refine XS.lconst X117.here hx rfl (hb hby d1_11) ?_
    show Steps p.tables e below (T117.setTop (mkF m 12 #[.val (.ref r0), .val (.long (131071 : Int64)), .second, .val (.int (17 : Int32))] [(.long (1 : Int64)), (.long (131071 : Int64))])) _
    refine XS.iloadN X117.here hx rfl (hb hby d1_12) rfl ?_
    show Steps p.tables e below (T117.setTop (mkF m 13 #[.val (.ref r0), .val (.long (131071 : Int64)), .second, .val (.int (17 : Int32))] [(.int (17 : Int32)), (.long (1 : Int64)), (.long (131071 : Int64))])) _
    refine XS.lshl X117.here hx rfl (hb hby d1_13) rfl ?_
    show Steps p.tables e below (T117.setTop (mkF m 14 #[.val (.ref r0), .val (.long (131071 : Int64)), .second, .val (.int (17 : Int32))] [(.long ((1 : Int64) <<< ((17 : Int32) &&& 0x3f).toInt64)), (.long (131071 : Int64))])) _
    refine XS.lor X117.here hx rfl (hb hby d1_14) rfl ?_
    show Steps p.tables e below (T117.setTop (mkF m 15 #[.val (.ref r0), .val (.long (131071 : Int64)), .second, .val (.int (17 : Int32))] [(.long ((131071 : Int64) ||| ((1 : Int64) <<< ((17 : Int32) &&& 0x3f).toInt64)))])) _
    rw [show ((131071 : Int64) ||| ((1 : Int64) <<< ((17 : Int32) &&& 0x3f).toInt64)) = (262143 : Int64) from by decide +kernel]
    refine XS.lstoreN X117.here hx rfl (hb hby d1_15) rfl (l' := #[.val (.ref r0), .val (.long (262143 : Int64)), .second, .val (.int (17 : Int32))]) rfl ?_
    show Steps p.tables e below (T117.setTop (mkF m 16 #[.val (.ref r0), .val (.long (262143 : Int64)), .second, .val (.int (17 : Int32))] [])) _
    refine XS.iloadN X117.here hx rfl (hb hby d1_16) rfl ?_
    show Steps p.tables e below (T117.setTop (mkF m 17 #[.val (.ref r0), .val (.long (262143 : Int64)), .second, .val (.int (17 : Int32))] [(.int (17 : Int32))])) _
    refine XS.aloadN X117.here hx rfl (hb hby d1_17) rfl rfl ?_
    show Steps p.tables e below (T117.setTop (mkF m 18 #[.val (.ref r0), .val (.long (262143 : Int64)), .second, .val (.int (17 : Int32))] [(.ref r0), (.int (17 : Int32))])) _
    refine st118 _ ?_
    show Steps p.tables e below (T118.setTop (mkF m 21 #[.val (.ref r0), .val (.long (262143 : Int64)), .second, .val (.int (17 : Int32))] [(.int (1 : Int32)), (.int (17 : Int32))])) _
    refine XS.iadd X118.here hx rfl (hb hby d1_21) rfl ?_
    show Steps p.tables e below (T118.setTop (mkF m 22 #[.val (.ref r0), .val (.long (262143 : Int64)), .second, .val (.int (17 : Int32))] [(.int (18 : Int32))])) _
    refine XS.istoreN X118.here hx rfl (hb hby d1_22) rfl (l' := #[.val (.ref r0), .val (.long (262143 : Int64)), .second, .val (.int (18 : Int32))]) rfl ?_
    show Steps p.tables e below (T118.setTop (mkF m 23 #[.val (.ref r0), .val (.long (262143 : Int64)), .second, .val (.int (18 : Int32))] [])) _
    refine XS.goto X118.here hx rfl (pc0 := 23) (pc' := 4) rfl (hb hby d1_23) (by decide) (by decide) ?_
    show Steps p.tables e below (T118.setTop (mkF m 4 #[.val (.ref r0), .val (.long (262143 : Int64)), .second, .val (.int (18 : Int32))] [])) _
    refine XS.iloadN X118.here hx rfl (hb hby d1_4) rfl ?_
    show Steps p.tables e below (T118.setTop (mkF m 5 #[.val (.ref r0), .val (.long (262143 : Int64)), .second, .val (.int (18 : Int32))] [(.int (18 : Int32))])) _
    refine XS.bipush X118.here hx rfl (hb hby d1_5) ?_
    show Steps p.tables e below (T118.setTop (mkF m 7 #[.val (.ref r0), .val (.long (262143 : Int64)), .second, .val (.int (18 : Int32))] [(.int (64 : Int32)), (.int (18 : Int32))])) _
    refine XS.icmpNo X118.here hx rfl (hb hby d1_7) rfl (tlt (by decide : (18 : Int32) < (64 : Int32))).2.1 ?_
    show Steps p.tables e below (T118.setTop (mkF m 10 #[.val (.ref r0), .val (.long (262143 : Int64)), .second, .val (.int (18 : Int32))] [])) _
    refine XS.lloadN X118.here hx rfl (hb hby d1_10) rfl ?_
    show Steps p.tables e below (T118.setTop (mkF m 11 #[.val (.ref r0), .val (.long (262143 : Int64)), .second, .val (.int (18 : Int32))] [(.long (262143 : Int64))])) _
    refine XS.lconst X118.here hx rfl (hb hby d1_11) ?_
    show Steps p.tables e below (T118.setTop (mkF m 12 #[.val (.ref r0), .val (.long (262143 : Int64)), .second, .val (.int (18 : Int32))] [(.long (1 : Int64)), (.long (262143 : Int64))])) _
    refine XS.iloadN X118.here hx rfl (hb hby d1_12) rfl ?_
    show Steps p.tables e below (T118.setTop (mkF m 13 #[.val (.ref r0), .val (.long (262143 : Int64)), .second, .val (.int (18 : Int32))] [(.int (18 : Int32)), (.long (1 : Int64)), (.long (262143 : Int64))])) _
    refine XS.lshl X118.here hx rfl (hb hby d1_13) rfl ?_
    show Steps p.tables e below (T118.setTop (mkF m 14 #[.val (.ref r0), .val (.long (262143 : Int64)), .second, .val (.int (18 : Int32))] [(.long ((1 : Int64) <<< ((18 : Int32) &&& 0x3f).toInt64)), (.long (262143 : Int64))])) _
    refine XS.lor X118.here hx rfl (hb hby d1_14) rfl ?_
    show Steps p.tables e below (T118.setTop (mkF m 15 #[.val (.ref r0), .val (.long (262143 : Int64)), .second, .val (.int (18 : Int32))] [(.long ((262143 : Int64) ||| ((1 : Int64) <<< ((18 : Int32) &&& 0x3f).toInt64)))])) _
    rw [show ((262143 : Int64) ||| ((1 : Int64) <<< ((18 : Int32) &&& 0x3f).toInt64)) = (524287 : Int64) from by decide +kernel]
    refine XS.lstoreN X118.here hx rfl (hb hby d1_15) rfl (l' := #[.val (.ref r0), .val (.long (524287 : Int64)), .second, .val (.int (18 : Int32))]) rfl ?_
    show Steps p.tables e below (T118.setTop (mkF m 16 #[.val (.ref r0), .val (.long (524287 : Int64)), .second, .val (.int (18 : Int32))] [])) _
    refine XS.iloadN X118.here hx rfl (hb hby d1_16) rfl ?_
    show Steps p.tables e below (T118.setTop (mkF m 17 #[.val (.ref r0), .val (.long (524287 : Int64)), .second, .val (.int (18 : Int32))] [(.int (18 : Int32))])) _
    refine XS.aloadN X118.here hx rfl (hb hby d1_17) rfl rfl ?_
    show Steps p.tables e below (T118.setTop (mkF m 18 #[.val (.ref r0), .val (.long (524287 : Int64)), .second, .val (.int (18 : Int32))] [(.ref r0), (.int (18 : Int32))])) _
    refine st119 _ ?_
    show Steps p.tables e below (T119.setTop (mkF m 21 #[.val (.ref r0), .val (.long (524287 : Int64)), .second, .val (.int (18 : Int32))] [(.int (1 : Int32)), (.int (18 : Int32))])) _
    refine XS.iadd X119.here hx rfl (hb hby d1_21) rfl ?_
    show Steps p.tables e below (T119.setTop (mkF m 22 #[.val (.ref r0), .val (.long (524287 : Int64)), .second, .val (.int (18 : Int32))] [(.int (19 : Int32))])) _
    refine XS.istoreN X119.here hx rfl (hb hby d1_22) rfl (l' := #[.val (.ref r0), .val (.long (524287 : Int64)), .second, .val (.int (19 : Int32))]) rfl ?_
    show Steps p.tables e below (T119.setTop (mkF m 23 #[.val (.ref r0), .val (.long (524287 : Int64)), .second, .val (.int (19 : Int32))] [])) _
    refine XS.goto X119.here hx rfl (pc0 := 23) (pc' := 4) rfl (hb hby d1_23) (by decide) (by decide) ?_
    show Steps p.tables e below (T119.setTop (mkF m 4 #[.val (.ref r0), .val (.long (524287 : Int64)), .second, .val (.int (19 : Int32))] [])) _
    refine XS.iloadN X119.here hx rfl (hb hby d1_4) rfl ?_
    show Steps p.tables e below (T119.setTop (mkF m 5 #[.val (.ref r0), .val (.long (524287 : Int64)), .second, .val (.int (19 : Int32))] [(.int (19 : Int32))])) _
    refine XS.bipush X119.here hx rfl (hb hby d1_5) ?_
    show Steps p.tables e below (T119.setTop (mkF m 7 #[.val (.ref r0), .val (.long (524287 : Int64)), .second, .val (.int (19 : Int32))] [(.int (64 : Int32)), (.int (19 : Int32))])) _
    refine XS.icmpNo X119.here hx rfl (hb hby d1_7) rfl (tlt (by decide : (19 : Int32) < (64 : Int32))).2.1 ?_
    show Steps p.tables e below (T119.setTop (mkF m 10 #[.val (.ref r0), .val (.long (524287 : Int64)), .second, .val (.int (19 : Int32))] [])) _
    refine XS.lloadN X119.here hx rfl (hb hby d1_10) rfl ?_
    show Steps p.tables e below (T119.setTop (mkF m 11 #[.val (.ref r0), .val (.long (524287 : Int64)), .second, .val (.int (19 : Int32))] [(.long (524287 : Int64))])) _
    refine XS.lconst X119.here hx rfl (hb hby d1_11) ?_
    show Steps p.tables e below (T119.setTop (mkF m 12 #[.val (.ref r0), .val (.long (524287 : Int64)), .second, .val (.int (19 : Int32))] [(.long (1 : Int64)), (.long (524287 : Int64))])) _
    refine XS.iloadN X119.here hx rfl (hb hby d1_12) rfl ?_
    show Steps p.tables e below (T119.setTop (mkF m 13 #[.val (.ref r0), .val (.long (524287 : Int64)), .second, .val (.int (19 : Int32))] [(.int (19 : Int32)), (.long (1 : Int64)), (.long (524287 : Int64))])) _
    refine XS.lshl X119.here hx rfl (hb hby d1_13) rfl ?_
    show Steps p.tables e below (T119.setTop (mkF m 14 #[.val (.ref r0), .val (.long (524287 : Int64)), .second, .val (.int (19 : Int32))] [(.long ((1 : Int64) <<< ((19 : Int32) &&& 0x3f).toInt64)), (.long (524287 : Int64))])) _
    refine XS.lor X119.here hx rfl (hb hby d1_14) rfl ?_
    show Steps p.tables e below (T119.setTop (mkF m 15 #[.val (.ref r0), .val (.long (524287 : Int64)), .second, .val (.int (19 : Int32))] [(.long ((524287 : Int64) ||| ((1 : Int64) <<< ((19 : Int32) &&& 0x3f).toInt64)))])) _
    rw [show ((524287 : Int64) ||| ((1 : Int64) <<< ((19 : Int32) &&& 0x3f).toInt64)) = (1048575 : Int64) from by decide +kernel]
    refine XS.lstoreN X119.here hx rfl (hb hby d1_15) rfl (l' := #[.val (.ref r0), .val (.long (1048575 : Int64)), .second, .val (.int (19 : Int32))]) rfl ?_
    show Steps p.tables e below (T119.setTop (mkF m 16 #[.val (.ref r0), .val (.long (1048575 : Int64)), .second, .val (.int (19 : Int32))] [])) _
    refine XS.iloadN X119.here hx rfl (hb hby d1_16) rfl ?_
    show Steps p.tables e below (T119.setTop (mkF m 17 #[.val (.ref r0), .val (.long (1048575 : Int64)), .second, .val (.int (19 : Int32))] [(.int (19 : Int32))])) _
    refine XS.aloadN X119.here hx rfl (hb hby d1_17) rfl rfl ?_
    show Steps p.tables e below (T119.setTop (mkF m 18 #[.val (.ref r0), .val (.long (1048575 : Int64)), .second, .val (.int (19 : Int32))] [(.ref r0), (.int (19 : Int32))])) _
    refine st120 _ ?_
    show Steps p.tables e below (T120.setTop (mkF m 21 #[.val (.ref r0), .val (.long (1048575 : Int64)), .second, .val (.int (19 : Int32))] [(.int (1 : Int32)), (.int (19 : Int32))])) _
    refine XS.iadd X120.here hx rfl (hb hby d1_21) rfl ?_
    show Steps p.tables e below (T120.setTop (mkF m 22 #[.val (.ref r0), .val (.long (1048575 : Int64)), .second, .val (.int (19 : Int32))] [(.int (20 : Int32))])) _
    refine XS.istoreN X120.here hx rfl (hb hby d1_22) rfl (l' := #[.val (.ref r0), .val (.long (1048575 : Int64)), .second, .val (.int (20 : Int32))]) rfl ?_
    show Steps p.tables e below (T120.setTop (mkF m 23 #[.val (.ref r0), .val (.long (1048575 : Int64)), .second, .val (.int (20 : Int32))] [])) _
    refine XS.goto X120.here hx rfl (pc0 := 23) (pc' := 4) rfl (hb hby d1_23) (by decide) (by decide) ?_
    show Steps p.tables e below (T120.setTop (mkF m 4 #[.val (.ref r0), .val (.long (1048575 : Int64)), .second, .val (.int (20 : Int32))] [])) _
    refine XS.iloadN X120.here hx rfl (hb hby d1_4) rfl ?_
    show Steps p.tables e below (T120.setTop (mkF m 5 #[.val (.ref r0), .val (.long (1048575 : Int64)), .second, .val (.int (20 : Int32))] [(.int (20 : Int32))])) _
    refine XS.bipush X120.here hx rfl (hb hby d1_5) ?_
    show Steps p.tables e below (T120.setTop (mkF m 7 #[.val (.ref r0), .val (.long (1048575 : Int64)), .second, .val (.int (20 : Int32))] [(.int (64 : Int32)), (.int (20 : Int32))])) _
    refine XS.icmpNo X120.here hx rfl (hb hby d1_7) rfl (tlt (by decide : (20 : Int32) < (64 : Int32))).2.1 ?_
    show Steps p.tables e below (T120.setTop (mkF m 10 #[.val (.ref r0), .val (.long (1048575 : Int64)), .second, .val (.int (20 : Int32))] [])) _
    refine XS.lloadN X120.here hx rfl (hb hby d1_10) rfl ?_
    show Steps p.tables e below (T120.setTop (mkF m 11 #[.val (.ref r0), .val (.long (1048575 : Int64)), .second, .val (.int (20 : Int32))] [(.long (1048575 : Int64))])) _
    refine XS.lconst X120.here hx rfl (hb hby d1_11) ?_
    show Steps p.tables e below (T120.setTop (mkF m 12 #[.val (.ref r0), .val (.long (1048575 : Int64)), .second, .val (.int (20 : Int32))] [(.long (1 : Int64)), (.long (1048575 : Int64))])) _
    refine XS.iloadN X120.here hx rfl (hb hby d1_12) rfl ?_
    show Steps p.tables e below (T120.setTop (mkF m 13 #[.val (.ref r0), .val (.long (1048575 : Int64)), .second, .val (.int (20 : Int32))] [(.int (20 : Int32)), (.long (1 : Int64)), (.long (1048575 : Int64))])) _
    refine XS.lshl X120.here hx rfl (hb hby d1_13) rfl ?_
    show Steps p.tables e below (T120.setTop (mkF m 14 #[.val (.ref r0), .val (.long (1048575 : Int64)), .second, .val (.int (20 : Int32))] [(.long ((1 : Int64) <<< ((20 : Int32) &&& 0x3f).toInt64)), (.long (1048575 : Int64))])) _
    refine XS.lor X120.here hx rfl (hb hby d1_14) rfl ?_
    show Steps p.tables e below (T120.setTop (mkF m 15 #[.val (.ref r0), .val (.long (1048575 : Int64)), .second, .val (.int (20 : Int32))] [(.long ((1048575 : Int64) ||| ((1 : Int64) <<< ((20 : Int32) &&& 0x3f).toInt64)))])) _
    rw [show ((1048575 : Int64) ||| ((1 : Int64) <<< ((20 : Int32) &&& 0x3f).toInt64)) = (2097151 : Int64) from by decide +kernel]
    refine XS.lstoreN X120.here hx rfl (hb hby d1_15) rfl (l' := #[.val (.ref r0), .val (.long (2097151 : Int64)), .second, .val (.int (20 : Int32))]) rfl ?_
    show Steps p.tables e below (T120.setTop (mkF m 16 #[.val (.ref r0), .val (.long (2097151 : Int64)), .second, .val (.int (20 : Int32))] [])) _
    refine XS.iloadN X120.here hx rfl (hb hby d1_16) rfl ?_
    show Steps p.tables e below (T120.setTop (mkF m 17 #[.val (.ref r0), .val (.long (2097151 : Int64)), .second, .val (.int (20 : Int32))] [(.int (20 : Int32))])) _
    refine XS.aloadN X120.here hx rfl (hb hby d1_17) rfl rfl ?_
    show Steps p.tables e below (T120.setTop (mkF m 18 #[.val (.ref r0), .val (.long (2097151 : Int64)), .second, .val (.int (20 : Int32))] [(.ref r0), (.int (20 : Int32))])) _
    refine st121 _ ?_
    show Steps p.tables e below (T121.setTop (mkF m 21 #[.val (.ref r0), .val (.long (2097151 : Int64)), .second, .val (.int (20 : Int32))] [(.int (1 : Int32)), (.int (20 : Int32))])) _
    refine XS.iadd X121.here hx rfl (hb hby d1_21) rfl ?_
    show Steps p.tables e below (T121.setTop (mkF m 22 #[.val (.ref r0), .val (.long (2097151 : Int64)), .second, .val (.int (20 : Int32))] [(.int (21 : Int32))])) _
    refine XS.istoreN X121.here hx rfl (hb hby d1_22) rfl (l' := #[.val (.ref r0), .val (.long (2097151 : Int64)), .second, .val (.int (21 : Int32))]) rfl ?_
    show Steps p.tables e below (T121.setTop (mkF m 23 #[.val (.ref r0), .val (.long (2097151 : Int64)), .second, .val (.int (21 : Int32))] [])) _
    refine XS.goto X121.here hx rfl (pc0 := 23) (pc' := 4) rfl (hb hby d1_23) (by decide) (by decide) ?_
    show Steps p.tables e below (T121.setTop (mkF m 4 #[.val (.ref r0), .val (.long (2097151 : Int64)), .second, .val (.int (21 : Int32))] [])) _
    refine XS.iloadN X121.here hx rfl (hb hby d1_4) rfl ?_
    show Steps p.tables e below (T121.setTop (mkF m 5 #[.val (.ref r0), .val (.long (2097151 : Int64)), .second, .val (.int (21 : Int32))] [(.int (21 : Int32))])) _
    refine XS.bipush X121.here hx rfl (hb hby d1_5) ?_
    show Steps p.tables e below (T121.setTop (mkF m 7 #[.val (.ref r0), .val (.long (2097151 : Int64)), .second, .val (.int (21 : Int32))] [(.int (64 : Int32)), (.int (21 : Int32))])) _
    refine XS.icmpNo X121.here hx rfl (hb hby d1_7) rfl (tlt (by decide : (21 : Int32) < (64 : Int32))).2.1 ?_
    show Steps p.tables e below (T121.setTop (mkF m 10 #[.val (.ref r0), .val (.long (2097151 : Int64)), .second, .val (.int (21 : Int32))] [])) _
    refine XS.lloadN X121.here hx rfl (hb hby d1_10) rfl ?_
    show Steps p.tables e below (T121.setTop (mkF m 11 #[.val (.ref r0), .val (.long (2097151 : Int64)), .second, .val (.int (21 : Int32))] [(.long (2097151 : Int64))])) _
    refine XS.lconst X121.here hx rfl (hb hby d1_11) ?_
    show Steps p.tables e below (T121.setTop (mkF m 12 #[.val (.ref r0), .val (.long (2097151 : Int64)), .second, .val (.int (21 : Int32))] [(.long (1 : Int64)), (.long (2097151 : Int64))])) _
    refine XS.iloadN X121.here hx rfl (hb hby d1_12) rfl ?_
    show Steps p.tables e below (T121.setTop (mkF m 13 #[.val (.ref r0), .val (.long (2097151 : Int64)), .second, .val (.int (21 : Int32))] [(.int (21 : Int32)), (.long (1 : Int64)), (.long (2097151 : Int64))])) _
    refine XS.lshl X121.here hx rfl (hb hby d1_13) rfl ?_
    show Steps p.tables e below (T121.setTop (mkF m 14 #[.val (.ref r0), .val (.long (2097151 : Int64)), .second, .val (.int (21 : Int32))] [(.long ((1 : Int64) <<< ((21 : Int32) &&& 0x3f).toInt64)), (.long (2097151 : Int64))])) _
    refine XS.lor X121.here hx rfl (hb hby d1_14) rfl ?_
    show Steps p.tables e below (T121.setTop (mkF m 15 #[.val (.ref r0), .val (.long (2097151 : Int64)), .second, .val (.int (21 : Int32))] [(.long ((2097151 : Int64) ||| ((1 : Int64) <<< ((21 : Int32) &&& 0x3f).toInt64)))])) _
    rw [show ((2097151 : Int64) ||| ((1 : Int64) <<< ((21 : Int32) &&& 0x3f).toInt64)) = (4194303 : Int64) from by decide +kernel]
    refine XS.lstoreN X121.here hx rfl (hb hby d1_15) rfl (l' := #[.val (.ref r0), .val (.long (4194303 : Int64)), .second, .val (.int (21 : Int32))]) rfl ?_
    show Steps p.tables e below (T121.setTop (mkF m 16 #[.val (.ref r0), .val (.long (4194303 : Int64)), .second, .val (.int (21 : Int32))] [])) _
    refine XS.iloadN X121.here hx rfl (hb hby d1_16) rfl ?_
    show Steps p.tables e below (T121.setTop (mkF m 17 #[.val (.ref r0), .val (.long (4194303 : Int64)), .second, .val (.int (21 : Int32))] [(.int (21 : Int32))])) _
    refine XS.aloadN X121.here hx rfl (hb hby d1_17) rfl rfl ?_
    show Steps p.tables e below (T121.setTop (mkF m 18 #[.val (.ref r0), .val (.long (4194303 : Int64)), .second, .val (.int (21 : Int32))] [(.ref r0), (.int (21 : Int32))])) _
    refine st122 _ ?_
    show Steps p.tables e below (T122.setTop (mkF m 21 #[.val (.ref r0), .val (.long (4194303 : Int64)), .second, .val (.int (21 : Int32))] [(.int (1 : Int32)), (.int (21 : Int32))])) _
    refine XS.iadd X122.here hx rfl (hb hby d1_21) rfl ?_
    show Steps p.tables e below (T122.setTop (mkF m 22 #[.val (.ref r0), .val (.long (4194303 : Int64)), .second, .val (.int (21 : Int32))] [(.int (22 : Int32))])) _
    refine XS.istoreN X122.here hx rfl (hb hby d1_22) rfl (l' := #[.val (.ref r0), .val (.long (4194303 : Int64)), .second, .val (.int (22 : Int32))]) rfl ?_
    show Steps p.tables e below (T122.setTop (mkF m 23 #[.val (.ref r0), .val (.long (4194303 : Int64)), .second, .val (.int (22 : Int32))] [])) _
    refine XS.goto X122.here hx rfl (pc0 := 23) (pc' := 4) rfl (hb hby d1_23) (by decide) (by decide) ?_
    show Steps p.tables e below (T122.setTop (mkF m 4 #[.val (.ref r0), .val (.long (4194303 : Int64)), .second, .val (.int (22 : Int32))] [])) _
    refine XS.iloadN X122.here hx rfl (hb hby d1_4) rfl ?_
    show Steps p.tables e below (T122.setTop (mkF m 5 #[.val (.ref r0), .val (.long (4194303 : Int64)), .second, .val (.int (22 : Int32))] [(.int (22 : Int32))])) _
    refine XS.bipush X122.here hx rfl (hb hby d1_5) ?_
    show Steps p.tables e below (T122.setTop (mkF m 7 #[.val (.ref r0), .val (.long (4194303 : Int64)), .second, .val (.int (22 : Int32))] [(.int (64 : Int32)), (.int (22 : Int32))])) _
    refine XS.icmpNo X122.here hx rfl (hb hby d1_7) rfl (tlt (by decide : (22 : Int32) < (64 : Int32))).2.1 ?_
    show Steps p.tables e below (T122.setTop (mkF m 10 #[.val (.ref r0), .val (.long (4194303 : Int64)), .second, .val (.int (22 : Int32))] [])) _
    refine XS.lloadN X122.here hx rfl (hb hby d1_10) rfl ?_
    show Steps p.tables e below (T122.setTop (mkF m 11 #[.val (.ref r0), .val (.long (4194303 : Int64)), .second, .val (.int (22 : Int32))] [(.long (4194303 : Int64))])) _
    refine XS.lconst X122.here hx rfl (hb hby d1_11) ?_
    show Steps p.tables e below (T122.setTop (mkF m 12 #[.val (.ref r0), .val (.long (4194303 : Int64)), .second, .val (.int (22 : Int32))] [(.long (1 : Int64)), (.long (4194303 : Int64))])) _
    refine XS.iloadN X122.here hx rfl (hb hby d1_12) rfl ?_
    show Steps p.tables e below (T122.setTop (mkF m 13 #[.val (.ref r0), .val (.long (4194303 : Int64)), .second, .val (.int (22 : Int32))] [(.int (22 : Int32)), (.long (1 : Int64)), (.long (4194303 : Int64))])) _
    refine XS.lshl X122.here hx rfl (hb hby d1_13) rfl ?_
    show Steps p.tables e below (T122.setTop (mkF m 14 #[.val (.ref r0), .val (.long (4194303 : Int64)), .second, .val (.int (22 : Int32))] [(.long ((1 : Int64) <<< ((22 : Int32) &&& 0x3f).toInt64)), (.long (4194303 : Int64))])) _
    refine XS.lor X122.here hx rfl (hb hby d1_14) rfl ?_
    show Steps p.tables e below (T122.setTop (mkF m 15 #[.val (.ref r0), .val (.long (4194303 : Int64)), .second, .val (.int (22 : Int32))] [(.long ((4194303 : Int64) ||| ((1 : Int64) <<< ((22 : Int32) &&& 0x3f).toInt64)))])) _
    rw [show ((4194303 : Int64) ||| ((1 : Int64) <<< ((22 : Int32) &&& 0x3f).toInt64)) = (8388607 : Int64) from by decide +kernel]
    refine XS.lstoreN X122.here hx rfl (hb hby d1_15) rfl (l' := #[.val (.ref r0), .val (.long (8388607 : Int64)), .second, .val (.int (22 : Int32))]) rfl ?_
    show Steps p.tables e below (T122.setTop (mkF m 16 #[.val (.ref r0), .val (.long (8388607 : Int64)), .second, .val (.int (22 : Int32))] [])) _
    refine XS.iloadN X122.here hx rfl (hb hby d1_16) rfl ?_
    show Steps p.tables e below (T122.setTop (mkF m 17 #[.val (.ref r0), .val (.long (8388607 : Int64)), .second, .val (.int (22 : Int32))] [(.int (22 : Int32))])) _
    refine XS.aloadN X122.here hx rfl (hb hby d1_17) rfl rfl ?_
    show Steps p.tables e below (T122.setTop (mkF m 18 #[.val (.ref r0), .val (.long (8388607 : Int64)), .second, .val (.int (22 : Int32))] [(.ref r0), (.int (22 : Int32))])) _
    refine st123 _ ?_
    show Steps p.tables e below (T123.setTop (mkF m 21 #[.val (.ref r0), .val (.long (8388607 : Int64)), .second, .val (.int (22 : Int32))] [(.int (1 : Int32)), (.int (22 : Int32))])) _
    refine XS.iadd X123.here hx rfl (hb hby d1_21) rfl ?_
    show Steps p.tables e below (T123.setTop (mkF m 22 #[.val (.ref r0), .val (.long (8388607 : Int64)), .second, .val (.int (22 : Int32))] [(.int (23 : Int32))])) _
    refine XS.istoreN X123.here hx rfl (hb hby d1_22) rfl (l' := #[.val (.ref r0), .val (.long (8388607 : Int64)), .second, .val (.int (23 : Int32))]) rfl ?_
    show Steps p.tables e below (T123.setTop (mkF m 23 #[.val (.ref r0), .val (.long (8388607 : Int64)), .second, .val (.int (23 : Int32))] [])) _
    refine XS.goto X123.here hx rfl (pc0 := 23) (pc' := 4) rfl (hb hby d1_23) (by decide) (by decide) ?_
    show Steps p.tables e below (T123.setTop (mkF m 4 #[.val (.ref r0), .val (.long (8388607 : Int64)), .second, .val (.int (23 : Int32))] [])) _
    refine XS.iloadN X123.here hx rfl (hb hby d1_4) rfl ?_
    show Steps p.tables e below (T123.setTop (mkF m 5 #[.val (.ref r0), .val (.long (8388607 : Int64)), .second, .val (.int (23 : Int32))] [(.int (23 : Int32))])) _
    refine XS.bipush X123.here hx rfl (hb hby d1_5) ?_
    show Steps p.tables e below (T123.setTop (mkF m 7 #[.val (.ref r0), .val (.long (8388607 : Int64)), .second, .val (.int (23 : Int32))] [(.int (64 : Int32)), (.int (23 : Int32))])) _
    refine XS.icmpNo X123.here hx rfl (hb hby d1_7) rfl (tlt (by decide : (23 : Int32) < (64 : Int32))).2.1 ?_
    show Steps p.tables e below (T123.setTop (mkF m 10 #[.val (.ref r0), .val (.long (8388607 : Int64)), .second, .val (.int (23 : Int32))] [])) _
    refine XS.lloadN X123.here hx rfl (hb hby d1_10) rfl ?_
    show Steps p.tables e below (T123.setTop (mkF m 11 #[.val (.ref r0), .val (.long (8388607 : Int64)), .second, .val (.int (23 : Int32))] [(.long (8388607 : Int64))])) _
    refine XS.lconst X123.here hx rfl (hb hby d1_11) ?_
    show Steps p.tables e below (T123.setTop (mkF m 12 #[.val (.ref r0), .val (.long (8388607 : Int64)), .second, .val (.int (23 : Int32))] [(.long (1 : Int64)), (.long (8388607 : Int64))])) _
    refine XS.iloadN X123.here hx rfl (hb hby d1_12) rfl ?_
    show Steps p.tables e below (T123.setTop (mkF m 13 #[.val (.ref r0), .val (.long (8388607 : Int64)), .second, .val (.int (23 : Int32))] [(.int (23 : Int32)), (.long (1 : Int64)), (.long (8388607 : Int64))])) _
    refine XS.lshl X123.here hx rfl (hb hby d1_13) rfl ?_
    show Steps p.tables e below (T123.setTop (mkF m 14 #[.val (.ref r0), .val (.long (8388607 : Int64)), .second, .val (.int (23 : Int32))] [(.long ((1 : Int64) <<< ((23 : Int32) &&& 0x3f).toInt64)), (.long (8388607 : Int64))])) _
    refine XS.lor X123.here hx rfl (hb hby d1_14) rfl ?_
    show Steps p.tables e below (T123.setTop (mkF m 15 #[.val (.ref r0), .val (.long (8388607 : Int64)), .second, .val (.int (23 : Int32))] [(.long ((8388607 : Int64) ||| ((1 : Int64) <<< ((23 : Int32) &&& 0x3f).toInt64)))])) _
    rw [show ((8388607 : Int64) ||| ((1 : Int64) <<< ((23 : Int32) &&& 0x3f).toInt64)) = (16777215 : Int64) from by decide +kernel]
    refine XS.lstoreN X123.here hx rfl (hb hby d1_15) rfl (l' := #[.val (.ref r0), .val (.long (16777215 : Int64)), .second, .val (.int (23 : Int32))]) rfl ?_
    show Steps p.tables e below (T123.setTop (mkF m 16 #[.val (.ref r0), .val (.long (16777215 : Int64)), .second, .val (.int (23 : Int32))] [])) _
    refine XS.iloadN X123.here hx rfl (hb hby d1_16) rfl ?_
    show Steps p.tables e below (T123.setTop (mkF m 17 #[.val (.ref r0), .val (.long (16777215 : Int64)), .second, .val (.int (23 : Int32))] [(.int (23 : Int32))])) _
    refine XS.aloadN X123.here hx rfl (hb hby d1_17) rfl rfl ?_
    show Steps p.tables e below (T123.setTop (mkF m 18 #[.val (.ref r0), .val (.long (16777215 : Int64)), .second, .val (.int (23 : Int32))] [(.ref r0), (.int (23 : Int32))])) _
    refine st124 _ ?_
    show Steps p.tables e below (T124.setTop (mkF m 21 #[.val (.ref r0), .val (.long (16777215 : Int64)), .second, .val (.int (23 : Int32))] [(.int (1 : Int32)), (.int (23 : Int32))])) _
    refine XS.iadd X124.here hx rfl (hb hby d1_21) rfl ?_
    show Steps p.tables e below (T124.setTop (mkF m 22 #[.val (.ref r0), .val (.long (16777215 : Int64)), .second, .val (.int (23 : Int32))] [(.int (24 : Int32))])) _
    refine XS.istoreN X124.here hx rfl (hb hby d1_22) rfl (l' := #[.val (.ref r0), .val (.long (16777215 : Int64)), .second, .val (.int (24 : Int32))]) rfl ?_
    show Steps p.tables e below (T124.setTop (mkF m 23 #[.val (.ref r0), .val (.long (16777215 : Int64)), .second, .val (.int (24 : Int32))] [])) _
    refine XS.goto X124.here hx rfl (pc0 := 23) (pc' := 4) rfl (hb hby d1_23) (by decide) (by decide) ?_
    show Steps p.tables e below (T124.setTop (mkF m 4 #[.val (.ref r0), .val (.long (16777215 : Int64)), .second, .val (.int (24 : Int32))] [])) _
    refine XS.iloadN X124.here hx rfl (hb hby d1_4) rfl ?_
    show Steps p.tables e below (T124.setTop (mkF m 5 #[.val (.ref r0), .val (.long (16777215 : Int64)), .second, .val (.int (24 : Int32))] [(.int (24 : Int32))])) _
    refine XS.bipush X124.here hx rfl (hb hby d1_5) ?_
    show Steps p.tables e below (T124.setTop (mkF m 7 #[.val (.ref r0), .val (.long (16777215 : Int64)), .second, .val (.int (24 : Int32))] [(.int (64 : Int32)), (.int (24 : Int32))])) _
    refine XS.icmpNo X124.here hx rfl (hb hby d1_7) rfl (tlt (by decide : (24 : Int32) < (64 : Int32))).2.1 ?_
    show Steps p.tables e below (T124.setTop (mkF m 10 #[.val (.ref r0), .val (.long (16777215 : Int64)), .second, .val (.int (24 : Int32))] [])) _
    refine XS.lloadN X124.here hx rfl (hb hby d1_10) rfl ?_
    show Steps p.tables e below (T124.setTop (mkF m 11 #[.val (.ref r0), .val (.long (16777215 : Int64)), .second, .val (.int (24 : Int32))] [(.long (16777215 : Int64))])) _
    refine XS.lconst X124.here hx rfl (hb hby d1_11) ?_
    show Steps p.tables e below (T124.setTop (mkF m 12 #[.val (.ref r0), .val (.long (16777215 : Int64)), .second, .val (.int (24 : Int32))] [(.long (1 : Int64)), (.long (16777215 : Int64))])) _
    refine XS.iloadN X124.here hx rfl (hb hby d1_12) rfl ?_
    show Steps p.tables e below (T124.setTop (mkF m 13 #[.val (.ref r0), .val (.long (16777215 : Int64)), .second, .val (.int (24 : Int32))] [(.int (24 : Int32)), (.long (1 : Int64)), (.long (16777215 : Int64))])) _
    refine XS.lshl X124.here hx rfl (hb hby d1_13) rfl ?_
    show Steps p.tables e below (T124.setTop (mkF m 14 #[.val (.ref r0), .val (.long (16777215 : Int64)), .second, .val (.int (24 : Int32))] [(.long ((1 : Int64) <<< ((24 : Int32) &&& 0x3f).toInt64)), (.long (16777215 : Int64))])) _
    refine XS.lor X124.here hx rfl (hb hby d1_14) rfl ?_
    show Steps p.tables e below (T124.setTop (mkF m 15 #[.val (.ref r0), .val (.long (16777215 : Int64)), .second, .val (.int (24 : Int32))] [(.long ((16777215 : Int64) ||| ((1 : Int64) <<< ((24 : Int32) &&& 0x3f).toInt64)))])) _
    rw [show ((16777215 : Int64) ||| ((1 : Int64) <<< ((24 : Int32) &&& 0x3f).toInt64)) = (33554431 : Int64) from by decide +kernel]
    refine XS.lstoreN X124.here hx rfl (hb hby d1_15) rfl (l' := #[.val (.ref r0), .val (.long (33554431 : Int64)), .second, .val (.int (24 : Int32))]) rfl ?_
    show Steps p.tables e below (T124.setTop (mkF m 16 #[.val (.ref r0), .val (.long (33554431 : Int64)), .second, .val (.int (24 : Int32))] [])) _
    refine XS.iloadN X124.here hx rfl (hb hby d1_16) rfl ?_
    show Steps p.tables e below (T124.setTop (mkF m 17 #[.val (.ref r0), .val (.long (33554431 : Int64)), .second, .val (.int (24 : Int32))] [(.int (24 : Int32))])) _
    refine XS.aloadN X124.here hx rfl (hb hby d1_17) rfl rfl ?_
    show Steps p.tables e below (T124.setTop (mkF m 18 #[.val (.ref r0), .val (.long (33554431 : Int64)), .second, .val (.int (24 : Int32))] [(.ref r0), (.int (24 : Int32))])) _
    refine st125 _ ?_
    show Steps p.tables e below (T125.setTop (mkF m 21 #[.val (.ref r0), .val (.long (33554431 : Int64)), .second, .val (.int (24 : Int32))] [(.int (1 : Int32)), (.int (24 : Int32))])) _
    refine XS.iadd X125.here hx rfl (hb hby d1_21) rfl ?_
    show Steps p.tables e below (T125.setTop (mkF m 22 #[.val (.ref r0), .val (.long (33554431 : Int64)), .second, .val (.int (24 : Int32))] [(.int (25 : Int32))])) _
    refine XS.istoreN X125.here hx rfl (hb hby d1_22) rfl (l' := #[.val (.ref r0), .val (.long (33554431 : Int64)), .second, .val (.int (25 : Int32))]) rfl ?_
    show Steps p.tables e below (T125.setTop (mkF m 23 #[.val (.ref r0), .val (.long (33554431 : Int64)), .second, .val (.int (25 : Int32))] [])) _
    refine XS.goto X125.here hx rfl (pc0 := 23) (pc' := 4) rfl (hb hby d1_23) (by decide) (by decide) ?_
    show Steps p.tables e below (T125.setTop (mkF m 4 #[.val (.ref r0), .val (.long (33554431 : Int64)), .second, .val (.int (25 : Int32))] [])) _
    refine XS.iloadN X125.here hx rfl (hb hby d1_4) rfl ?_
    show Steps p.tables e below (T125.setTop (mkF m 5 #[.val (.ref r0), .val (.long (33554431 : Int64)), .second, .val (.int (25 : Int32))] [(.int (25 : Int32))])) _
    refine XS.bipush X125.here hx rfl (hb hby d1_5) ?_
    show Steps p.tables e below (T125.setTop (mkF m 7 #[.val (.ref r0), .val (.long (33554431 : Int64)), .second, .val (.int (25 : Int32))] [(.int (64 : Int32)), (.int (25 : Int32))])) _
    refine XS.icmpNo X125.here hx rfl (hb hby d1_7) rfl (tlt (by decide : (25 : Int32) < (64 : Int32))).2.1 ?_
    show Steps p.tables e below (T125.setTop (mkF m 10 #[.val (.ref r0), .val (.long (33554431 : Int64)), .second, .val (.int (25 : Int32))] [])) _
    refine XS.lloadN X125.here hx rfl (hb hby d1_10) rfl ?_
    show Steps p.tables e below (T125.setTop (mkF m 11 #[.val (.ref r0), .val (.long (33554431 : Int64)), .second, .val (.int (25 : Int32))] [(.long (33554431 : Int64))])) _
    refine XS.lconst X125.here hx rfl (hb hby d1_11) ?_
    show Steps p.tables e below (T125.setTop (mkF m 12 #[.val (.ref r0), .val (.long (33554431 : Int64)), .second, .val (.int (25 : Int32))] [(.long (1 : Int64)), (.long (33554431 : Int64))])) _
    refine XS.iloadN X125.here hx rfl (hb hby d1_12) rfl ?_
    show Steps p.tables e below (T125.setTop (mkF m 13 #[.val (.ref r0), .val (.long (33554431 : Int64)), .second, .val (.int (25 : Int32))] [(.int (25 : Int32)), (.long (1 : Int64)), (.long (33554431 : Int64))])) _
    refine XS.lshl X125.here hx rfl (hb hby d1_13) rfl ?_
    show Steps p.tables e below (T125.setTop (mkF m 14 #[.val (.ref r0), .val (.long (33554431 : Int64)), .second, .val (.int (25 : Int32))] [(.long ((1 : Int64) <<< ((25 : Int32) &&& 0x3f).toInt64)), (.long (33554431 : Int64))])) _
    refine XS.lor X125.here hx rfl (hb hby d1_14) rfl ?_
    show Steps p.tables e below (T125.setTop (mkF m 15 #[.val (.ref r0), .val (.long (33554431 : Int64)), .second, .val (.int (25 : Int32))] [(.long ((33554431 : Int64) ||| ((1 : Int64) <<< ((25 : Int32) &&& 0x3f).toInt64)))])) _
    rw [show ((33554431 : Int64) ||| ((1 : Int64) <<< ((25 : Int32) &&& 0x3f).toInt64)) = (67108863 : Int64) from by decide +kernel]
    refine XS.lstoreN X125.here hx rfl (hb hby d1_15) rfl (l' := #[.val (.ref r0), .val (.long (67108863 : Int64)), .second, .val (.int (25 : Int32))]) rfl ?_
    show Steps p.tables e below (T125.setTop (mkF m 16 #[.val (.ref r0), .val (.long (67108863 : Int64)), .second, .val (.int (25 : Int32))] [])) _
    refine XS.iloadN X125.here hx rfl (hb hby d1_16) rfl ?_
    show Steps p.tables e below (T125.setTop (mkF m 17 #[.val (.ref r0), .val (.long (67108863 : Int64)), .second, .val (.int (25 : Int32))] [(.int (25 : Int32))])) _
    refine XS.aloadN X125.here hx rfl (hb hby d1_17) rfl rfl ?_
    show Steps p.tables e below (T125.setTop (mkF m 18 #[.val (.ref r0), .val (.long (67108863 : Int64)), .second, .val (.int (25 : Int32))] [(.ref r0), (.int (25 : Int32))])) _
    refine st126 _ ?_
    show Steps p.tables e below (T126.setTop (mkF m 21 #[.val (.ref r0), .val (.long (67108863 : Int64)), .second, .val (.int (25 : Int32))] [(.int (1 : Int32)), (.int (25 : Int32))])) _
    refine XS.iadd X126.here hx rfl (hb hby d1_21) rfl ?_
    show Steps p.tables e below (T126.setTop (mkF m 22 #[.val (.ref r0), .val (.long (67108863 : Int64)), .second, .val (.int (25 : Int32))] [(.int (26 : Int32))])) _
    refine XS.istoreN X126.here hx rfl (hb hby d1_22) rfl (l' := #[.val (.ref r0), .val (.long (67108863 : Int64)), .second, .val (.int (26 : Int32))]) rfl ?_
    show Steps p.tables e below (T126.setTop (mkF m 23 #[.val (.ref r0), .val (.long (67108863 : Int64)), .second, .val (.int (26 : Int32))] [])) _
    refine XS.goto X126.here hx rfl (pc0 := 23) (pc' := 4) rfl (hb hby d1_23) (by decide) (by decide) ?_
    show Steps p.tables e below (T126.setTop (mkF m 4 #[.val (.ref r0), .val (.long (67108863 : Int64)), .second, .val (.int (26 : Int32))] [])) _
    refine XS.iloadN X126.here hx rfl (hb hby d1_4) rfl ?_
    show Steps p.tables e below (T126.setTop (mkF m 5 #[.val (.ref r0), .val (.long (67108863 : Int64)), .second, .val (.int (26 : Int32))] [(.int (26 : Int32))])) _
    refine XS.bipush X126.here hx rfl (hb hby d1_5) ?_
    show Steps p.tables e below (T126.setTop (mkF m 7 #[.val (.ref r0), .val (.long (67108863 : Int64)), .second, .val (.int (26 : Int32))] [(.int (64 : Int32)), (.int (26 : Int32))])) _
    refine XS.icmpNo X126.here hx rfl (hb hby d1_7) rfl (tlt (by decide : (26 : Int32) < (64 : Int32))).2.1 ?_
    show Steps p.tables e below (T126.setTop (mkF m 10 #[.val (.ref r0), .val (.long (67108863 : Int64)), .second, .val (.int (26 : Int32))] [])) _
    refine XS.lloadN X126.here hx rfl (hb hby d1_10) rfl ?_
    show Steps p.tables e below (T126.setTop (mkF m 11 #[.val (.ref r0), .val (.long (67108863 : Int64)), .second, .val (.int (26 : Int32))] [(.long (67108863 : Int64))])) _
    refine XS.lconst X126.here hx rfl (hb hby d1_11) ?_
    show Steps p.tables e below (T126.setTop (mkF m 12 #[.val (.ref r0), .val (.long (67108863 : Int64)), .second, .val (.int (26 : Int32))] [(.long (1 : Int64)), (.long (67108863 : Int64))])) _
    refine XS.iloadN X126.here hx rfl (hb hby d1_12) rfl ?_
    show Steps p.tables e below (T126.setTop (mkF m 13 #[.val (.ref r0), .val (.long (67108863 : Int64)), .second, .val (.int (26 : Int32))] [(.int (26 : Int32)), (.long (1 : Int64)), (.long (67108863 : Int64))])) _
    refine XS.lshl X126.here hx rfl (hb hby d1_13) rfl ?_
    show Steps p.tables e below (T126.setTop (mkF m 14 #[.val (.ref r0), .val (.long (67108863 : Int64)), .second, .val (.int (26 : Int32))] [(.long ((1 : Int64) <<< ((26 : Int32) &&& 0x3f).toInt64)), (.long (67108863 : Int64))])) _
    refine XS.lor X126.here hx rfl (hb hby d1_14) rfl ?_
    show Steps p.tables e below (T126.setTop (mkF m 15 #[.val (.ref r0), .val (.long (67108863 : Int64)), .second, .val (.int (26 : Int32))] [(.long ((67108863 : Int64) ||| ((1 : Int64) <<< ((26 : Int32) &&& 0x3f).toInt64)))])) _
    rw [show ((67108863 : Int64) ||| ((1 : Int64) <<< ((26 : Int32) &&& 0x3f).toInt64)) = (134217727 : Int64) from by decide +kernel]
    refine XS.lstoreN X126.here hx rfl (hb hby d1_15) rfl (l' := #[.val (.ref r0), .val (.long (134217727 : Int64)), .second, .val (.int (26 : Int32))]) rfl ?_
    show Steps p.tables e below (T126.setTop (mkF m 16 #[.val (.ref r0), .val (.long (134217727 : Int64)), .second, .val (.int (26 : Int32))] [])) _
    refine XS.iloadN X126.here hx rfl (hb hby d1_16) rfl ?_
    show Steps p.tables e below (T126.setTop (mkF m 17 #[.val (.ref r0), .val (.long (134217727 : Int64)), .second, .val (.int (26 : Int32))] [(.int (26 : Int32))])) _
    refine XS.aloadN X126.here hx rfl (hb hby d1_17) rfl rfl ?_
    show Steps p.tables e below (T126.setTop (mkF m 18 #[.val (.ref r0), .val (.long (134217727 : Int64)), .second, .val (.int (26 : Int32))] [(.ref r0), (.int (26 : Int32))])) _
    refine st127 _ ?_
    show Steps p.tables e below (T127.setTop (mkF m 21 #[.val (.ref r0), .val (.long (134217727 : Int64)), .second, .val (.int (26 : Int32))] [(.int (1 : Int32)), (.int (26 : Int32))])) _
    refine XS.iadd X127.here hx rfl (hb hby d1_21) rfl ?_
    show Steps p.tables e below (T127.setTop (mkF m 22 #[.val (.ref r0), .val (.long (134217727 : Int64)), .second, .val (.int (26 : Int32))] [(.int (27 : Int32))])) _
    refine XS.istoreN X127.here hx rfl (hb hby d1_22) rfl (l' := #[.val (.ref r0), .val (.long (134217727 : Int64)), .second, .val (.int (27 : Int32))]) rfl ?_
    show Steps p.tables e below (T127.setTop (mkF m 23 #[.val (.ref r0), .val (.long (134217727 : Int64)), .second, .val (.int (27 : Int32))] [])) _
    refine XS.goto X127.here hx rfl (pc0 := 23) (pc' := 4) rfl (hb hby d1_23) (by decide) (by decide) ?_
    show Steps p.tables e below (T127.setTop (mkF m 4 #[.val (.ref r0), .val (.long (134217727 : Int64)), .second, .val (.int (27 : Int32))] [])) _
    refine XS.iloadN X127.here hx rfl (hb hby d1_4) rfl ?_
    show Steps p.tables e below (T127.setTop (mkF m 5 #[.val (.ref r0), .val (.long (134217727 : Int64)), .second, .val (.int (27 : Int32))] [(.int (27 : Int32))])) _
    refine XS.bipush X127.here hx rfl (hb hby d1_5) ?_
    show Steps p.tables e below (T127.setTop (mkF m 7 #[.val (.ref r0), .val (.long (134217727 : Int64)), .second, .val (.int (27 : Int32))] [(.int (64 : Int32)), (.int (27 : Int32))])) _
    refine XS.icmpNo X127.here hx rfl (hb hby d1_7) rfl (tlt (by decide : (27 : Int32) < (64 : Int32))).2.1 ?_
    show Steps p.tables e below (T127.setTop (mkF m 10 #[.val (.ref r0), .val (.long (134217727 : Int64)), .second, .val (.int (27 : Int32))] [])) _
    refine XS.lloadN X127.here hx rfl (hb hby d1_10) rfl ?_
    show Steps p.tables e below (T127.setTop (mkF m 11 #[.val (.ref r0), .val (.long (134217727 : Int64)), .second, .val (.int (27 : Int32))] [(.long (134217727 : Int64))])) _
    refine XS.lconst X127.here hx rfl (hb hby d1_11) ?_
    show Steps p.tables e below (T127.setTop (mkF m 12 #[.val (.ref r0), .val (.long (134217727 : Int64)), .second, .val (.int (27 : Int32))] [(.long (1 : Int64)), (.long (134217727 : Int64))])) _
    refine XS.iloadN X127.here hx rfl (hb hby d1_12) rfl ?_
    show Steps p.tables e below (T127.setTop (mkF m 13 #[.val (.ref r0), .val (.long (134217727 : Int64)), .second, .val (.int (27 : Int32))] [(.int (27 : Int32)), (.long (1 : Int64)), (.long (134217727 : Int64))])) _
    refine XS.lshl X127.here hx rfl (hb hby d1_13) rfl ?_
    show Steps p.tables e below (T127.setTop (mkF m 14 #[.val (.ref r0), .val (.long (134217727 : Int64)), .second, .val (.int (27 : Int32))] [(.long ((1 : Int64) <<< ((27 : Int32) &&& 0x3f).toInt64)), (.long (134217727 : Int64))])) _
    refine XS.lor X127.here hx rfl (hb hby d1_14) rfl ?_
    show Steps p.tables e below (T127.setTop (mkF m 15 #[.val (.ref r0), .val (.long (134217727 : Int64)), .second, .val (.int (27 : Int32))] [(.long ((134217727 : Int64) ||| ((1 : Int64) <<< ((27 : Int32) &&& 0x3f).toInt64)))])) _
    rw [show ((134217727 : Int64) ||| ((1 : Int64) <<< ((27 : Int32) &&& 0x3f).toInt64)) = (268435455 : Int64) from by decide +kernel]
    refine XS.lstoreN X127.here hx rfl (hb hby d1_15) rfl (l' := #[.val (.ref r0), .val (.long (268435455 : Int64)), .second, .val (.int (27 : Int32))]) rfl ?_
    show Steps p.tables e below (T127.setTop (mkF m 16 #[.val (.ref r0), .val (.long (268435455 : Int64)), .second, .val (.int (27 : Int32))] [])) _
    refine XS.iloadN X127.here hx rfl (hb hby d1_16) rfl ?_
    show Steps p.tables e below (T127.setTop (mkF m 17 #[.val (.ref r0), .val (.long (268435455 : Int64)), .second, .val (.int (27 : Int32))] [(.int (27 : Int32))])) _
    refine XS.aloadN X127.here hx rfl (hb hby d1_17) rfl rfl ?_
    show Steps p.tables e below (T127.setTop (mkF m 18 #[.val (.ref r0), .val (.long (268435455 : Int64)), .second, .val (.int (27 : Int32))] [(.ref r0), (.int (27 : Int32))])) _
    refine st128 _ ?_
    show Steps p.tables e below (T128.setTop (mkF m 21 #[.val (.ref r0), .val (.long (268435455 : Int64)), .second, .val (.int (27 : Int32))] [(.int (1 : Int32)), (.int (27 : Int32))])) _
    refine XS.iadd X128.here hx rfl (hb hby d1_21) rfl ?_
    show Steps p.tables e below (T128.setTop (mkF m 22 #[.val (.ref r0), .val (.long (268435455 : Int64)), .second, .val (.int (27 : Int32))] [(.int (28 : Int32))])) _
    refine XS.istoreN X128.here hx rfl (hb hby d1_22) rfl (l' := #[.val (.ref r0), .val (.long (268435455 : Int64)), .second, .val (.int (28 : Int32))]) rfl ?_
    show Steps p.tables e below (T128.setTop (mkF m 23 #[.val (.ref r0), .val (.long (268435455 : Int64)), .second, .val (.int (28 : Int32))] [])) _
    refine XS.goto X128.here hx rfl (pc0 := 23) (pc' := 4) rfl (hb hby d1_23) (by decide) (by decide) ?_
    show Steps p.tables e below (T128.setTop (mkF m 4 #[.val (.ref r0), .val (.long (268435455 : Int64)), .second, .val (.int (28 : Int32))] [])) _
    refine XS.iloadN X128.here hx rfl (hb hby d1_4) rfl ?_
    show Steps p.tables e below (T128.setTop (mkF m 5 #[.val (.ref r0), .val (.long (268435455 : Int64)), .second, .val (.int (28 : Int32))] [(.int (28 : Int32))])) _
    refine XS.bipush X128.here hx rfl (hb hby d1_5) ?_
    show Steps p.tables e below (T128.setTop (mkF m 7 #[.val (.ref r0), .val (.long (268435455 : Int64)), .second, .val (.int (28 : Int32))] [(.int (64 : Int32)), (.int (28 : Int32))])) _
    refine XS.icmpNo X128.here hx rfl (hb hby d1_7) rfl (tlt (by decide : (28 : Int32) < (64 : Int32))).2.1 ?_
    show Steps p.tables e below (T128.setTop (mkF m 10 #[.val (.ref r0), .val (.long (268435455 : Int64)), .second, .val (.int (28 : Int32))] [])) _
    refine XS.lloadN X128.here hx rfl (hb hby d1_10) rfl ?_
    show Steps p.tables e below (T128.setTop (mkF m 11 #[.val (.ref r0), .val (.long (268435455 : Int64)), .second, .val (.int (28 : Int32))] [(.long (268435455 : Int64))])) _
    refine XS.lconst X128.here hx rfl (hb hby d1_11) ?_
    show Steps p.tables e below (T128.setTop (mkF m 12 #[.val (.ref r0), .val (.long (268435455 : Int64)), .second, .val (.int (28 : Int32))] [(.long (1 : Int64)), (.long (268435455 : Int64))])) _
    refine XS.iloadN X128.here hx rfl (hb hby d1_12) rfl ?_
    show Steps p.tables e below (T128.setTop (mkF m 13 #[.val (.ref r0), .val (.long (268435455 : Int64)), .second, .val (.int (28 : Int32))] [(.int (28 : Int32)), (.long (1 : Int64)), (.long (268435455 : Int64))])) _
    refine XS.lshl X128.here hx rfl (hb hby d1_13) rfl ?_
    show Steps p.tables e below (T128.setTop (mkF m 14 #[.val (.ref r0), .val (.long (268435455 : Int64)), .second, .val (.int (28 : Int32))] [(.long ((1 : Int64) <<< ((28 : Int32) &&& 0x3f).toInt64)), (.long (268435455 : Int64))])) _
    refine XS.lor X128.here hx rfl (hb hby d1_14) rfl ?_
    show Steps p.tables e below (T128.setTop (mkF m 15 #[.val (.ref r0), .val (.long (268435455 : Int64)), .second, .val (.int (28 : Int32))] [(.long ((268435455 : Int64) ||| ((1 : Int64) <<< ((28 : Int32) &&& 0x3f).toInt64)))])) _
    rw [show ((268435455 : Int64) ||| ((1 : Int64) <<< ((28 : Int32) &&& 0x3f).toInt64)) = (536870911 : Int64) from by decide +kernel]
    refine XS.lstoreN X128.here hx rfl (hb hby d1_15) rfl (l' := #[.val (.ref r0), .val (.long (536870911 : Int64)), .second, .val (.int (28 : Int32))]) rfl ?_
    show Steps p.tables e below (T128.setTop (mkF m 16 #[.val (.ref r0), .val (.long (536870911 : Int64)), .second, .val (.int (28 : Int32))] [])) _
    refine XS.iloadN X128.here hx rfl (hb hby d1_16) rfl ?_
    show Steps p.tables e below (T128.setTop (mkF m 17 #[.val (.ref r0), .val (.long (536870911 : Int64)), .second, .val (.int (28 : Int32))] [(.int (28 : Int32))])) _
    refine XS.aloadN X128.here hx rfl (hb hby d1_17) rfl rfl ?_
    show Steps p.tables e below (T128.setTop (mkF m 18 #[.val (.ref r0), .val (.long (536870911 : Int64)), .second, .val (.int (28 : Int32))] [(.ref r0), (.int (28 : Int32))])) _
    refine st129 _ ?_
    show Steps p.tables e below (T129.setTop (mkF m 21 #[.val (.ref r0), .val (.long (536870911 : Int64)), .second, .val (.int (28 : Int32))] [(.int (1 : Int32)), (.int (28 : Int32))])) _
    refine XS.iadd X129.here hx rfl (hb hby d1_21) rfl ?_
    show Steps p.tables e below (T129.setTop (mkF m 22 #[.val (.ref r0), .val (.long (536870911 : Int64)), .second, .val (.int (28 : Int32))] [(.int (29 : Int32))])) _
    refine XS.istoreN X129.here hx rfl (hb hby d1_22) rfl (l' := #[.val (.ref r0), .val (.long (536870911 : Int64)), .second, .val (.int (29 : Int32))]) rfl ?_
    show Steps p.tables e below (T129.setTop (mkF m 23 #[.val (.ref r0), .val (.long (536870911 : Int64)), .second, .val (.int (29 : Int32))] [])) _
    refine XS.goto X129.here hx rfl (pc0 := 23) (pc' := 4) rfl (hb hby d1_23) (by decide) (by decide) ?_
    show Steps p.tables e below (T129.setTop (mkF m 4 #[.val (.ref r0), .val (.long (536870911 : Int64)), .second, .val (.int (29 : Int32))] [])) _
    refine XS.iloadN X129.here hx rfl (hb hby d1_4) rfl ?_
    show Steps p.tables e below (T129.setTop (mkF m 5 #[.val (.ref r0), .val (.long (536870911 : Int64)), .second, .val (.int (29 : Int32))] [(.int (29 : Int32))])) _
    refine XS.bipush X129.here hx rfl (hb hby d1_5) ?_
    show Steps p.tables e below (T129.setTop (mkF m 7 #[.val (.ref r0), .val (.long (536870911 : Int64)), .second, .val (.int (29 : Int32))] [(.int (64 : Int32)), (.int (29 : Int32))])) _
    refine XS.icmpNo X129.here hx rfl (hb hby d1_7) rfl (tlt (by decide : (29 : Int32) < (64 : Int32))).2.1 ?_
    show Steps p.tables e below (T129.setTop (mkF m 10 #[.val (.ref r0), .val (.long (536870911 : Int64)), .second, .val (.int (29 : Int32))] [])) _
    refine XS.lloadN X129.here hx rfl (hb hby d1_10) rfl ?_
    show Steps p.tables e below (T129.setTop (mkF m 11 #[.val (.ref r0), .val (.long (536870911 : Int64)), .second, .val (.int (29 : Int32))] [(.long (536870911 : Int64))])) _
    refine XS.lconst X129.here hx rfl (hb hby d1_11) ?_
    show Steps p.tables e below (T129.setTop (mkF m 12 #[.val (.ref r0), .val (.long (536870911 : Int64)), .second, .val (.int (29 : Int32))] [(.long (1 : Int64)), (.long (536870911 : Int64))])) _
    refine XS.iloadN X129.here hx rfl (hb hby d1_12) rfl ?_
    show Steps p.tables e below (T129.setTop (mkF m 13 #[.val (.ref r0), .val (.long (536870911 : Int64)), .second, .val (.int (29 : Int32))] [(.int (29 : Int32)), (.long (1 : Int64)), (.long (536870911 : Int64))])) _
    refine XS.lshl X129.here hx rfl (hb hby d1_13) rfl ?_
    show Steps p.tables e below (T129.setTop (mkF m 14 #[.val (.ref r0), .val (.long (536870911 : Int64)), .second, .val (.int (29 : Int32))] [(.long ((1 : Int64) <<< ((29 : Int32) &&& 0x3f).toInt64)), (.long (536870911 : Int64))])) _
    refine XS.lor X129.here hx rfl (hb hby d1_14) rfl ?_
    show Steps p.tables e below (T129.setTop (mkF m 15 #[.val (.ref r0), .val (.long (536870911 : Int64)), .second, .val (.int (29 : Int32))] [(.long ((536870911 : Int64) ||| ((1 : Int64) <<< ((29 : Int32) &&& 0x3f).toInt64)))])) _
    rw [show ((536870911 : Int64) ||| ((1 : Int64) <<< ((29 : Int32) &&& 0x3f).toInt64)) = (1073741823 : Int64) from by decide +kernel]
    refine XS.lstoreN X129.here hx rfl (hb hby d1_15) rfl (l' := #[.val (.ref r0), .val (.long (1073741823 : Int64)), .second, .val (.int (29 : Int32))]) rfl ?_
    show Steps p.tables e below (T129.setTop (mkF m 16 #[.val (.ref r0), .val (.long (1073741823 : Int64)), .second, .val (.int (29 : Int32))] [])) _
    refine XS.iloadN X129.here hx rfl (hb hby d1_16) rfl ?_
    show Steps p.tables e below (T129.setTop (mkF m 17 #[.val (.ref r0), .val (.long (1073741823 : Int64)), .second, .val (.int (29 : Int32))] [(.int (29 : Int32))])) _
    refine XS.aloadN X129.here hx rfl (hb hby d1_17) rfl rfl ?_
    show Steps p.tables e below (T129.setTop (mkF m 18 #[.val (.ref r0), .val (.long (1073741823 : Int64)), .second, .val (.int (29 : Int32))] [(.ref r0), (.int (29 : Int32))])) _
    refine st130 _ ?_
    show Steps p.tables e below (T130.setTop (mkF m 21 #[.val (.ref r0), .val (.long (1073741823 : Int64)), .second, .val (.int (29 : Int32))] [(.int (1 : Int32)), (.int (29 : Int32))])) _
    refine XS.iadd X130.here hx rfl (hb hby d1_21) rfl ?_
    show Steps p.tables e below (T130.setTop (mkF m 22 #[.val (.ref r0), .val (.long (1073741823 : Int64)), .second, .val (.int (29 : Int32))] [(.int (30 : Int32))])) _
    refine XS.istoreN X130.here hx rfl (hb hby d1_22) rfl (l' := #[.val (.ref r0), .val (.long (1073741823 : Int64)), .second, .val (.int (30 : Int32))]) rfl ?_
    show Steps p.tables e below (T130.setTop (mkF m 23 #[.val (.ref r0), .val (.long (1073741823 : Int64)), .second, .val (.int (30 : Int32))] [])) _
    refine XS.goto X130.here hx rfl (pc0 := 23) (pc' := 4) rfl (hb hby d1_23) (by decide) (by decide) ?_
    show Steps p.tables e below (T130.setTop (mkF m 4 #[.val (.ref r0), .val (.long (1073741823 : Int64)), .second, .val (.int (30 : Int32))] [])) _
    refine XS.iloadN X130.here hx rfl (hb hby d1_4) rfl ?_
    show Steps p.tables e below (T130.setTop (mkF m 5 #[.val (.ref r0), .val (.long (1073741823 : Int64)), .second, .val (.int (30 : Int32))] [(.int (30 : Int32))])) _
    refine XS.bipush X130.here hx rfl (hb hby d1_5) ?_
    show Steps p.tables e below (T130.setTop (mkF m 7 #[.val (.ref r0), .val (.long (1073741823 : Int64)), .second, .val (.int (30 : Int32))] [(.int (64 : Int32)), (.int (30 : Int32))])) _
    refine XS.icmpNo X130.here hx rfl (hb hby d1_7) rfl (tlt (by decide : (30 : Int32) < (64 : Int32))).2.1 ?_
    show Steps p.tables e below (T130.setTop (mkF m 10 #[.val (.ref r0), .val (.long (1073741823 : Int64)), .second, .val (.int (30 : Int32))] [])) _
    refine XS.lloadN X130.here hx rfl (hb hby d1_10) rfl ?_
    show Steps p.tables e below (T130.setTop (mkF m 11 #[.val (.ref r0), .val (.long (1073741823 : Int64)), .second, .val (.int (30 : Int32))] [(.long (1073741823 : Int64))])) _
    refine XS.lconst X130.here hx rfl (hb hby d1_11) ?_
    show Steps p.tables e below (T130.setTop (mkF m 12 #[.val (.ref r0), .val (.long (1073741823 : Int64)), .second, .val (.int (30 : Int32))] [(.long (1 : Int64)), (.long (1073741823 : Int64))])) _
    refine XS.iloadN X130.here hx rfl (hb hby d1_12) rfl ?_
    show Steps p.tables e below (T130.setTop (mkF m 13 #[.val (.ref r0), .val (.long (1073741823 : Int64)), .second, .val (.int (30 : Int32))] [(.int (30 : Int32)), (.long (1 : Int64)), (.long (1073741823 : Int64))])) _
    refine XS.lshl X130.here hx rfl (hb hby d1_13) rfl ?_
    show Steps p.tables e below (T130.setTop (mkF m 14 #[.val (.ref r0), .val (.long (1073741823 : Int64)), .second, .val (.int (30 : Int32))] [(.long ((1 : Int64) <<< ((30 : Int32) &&& 0x3f).toInt64)), (.long (1073741823 : Int64))])) _
    refine XS.lor X130.here hx rfl (hb hby d1_14) rfl ?_
    show Steps p.tables e below (T130.setTop (mkF m 15 #[.val (.ref r0), .val (.long (1073741823 : Int64)), .second, .val (.int (30 : Int32))] [(.long ((1073741823 : Int64) ||| ((1 : Int64) <<< ((30 : Int32) &&& 0x3f).toInt64)))])) _
    rw [show ((1073741823 : Int64) ||| ((1 : Int64) <<< ((30 : Int32) &&& 0x3f).toInt64)) = (2147483647 : Int64) from by decide +kernel]
    refine XS.lstoreN X130.here hx rfl (hb hby d1_15) rfl (l' := #[.val (.ref r0), .val (.long (2147483647 : Int64)), .second, .val (.int (30 : Int32))]) rfl ?_
    show Steps p.tables e below (T130.setTop (mkF m 16 #[.val (.ref r0), .val (.long (2147483647 : Int64)), .second, .val (.int (30 : Int32))] [])) _
    refine XS.iloadN X130.here hx rfl (hb hby d1_16) rfl ?_
    show Steps p.tables e below (T130.setTop (mkF m 17 #[.val (.ref r0), .val (.long (2147483647 : Int64)), .second, .val (.int (30 : Int32))] [(.int (30 : Int32))])) _
    refine XS.aloadN X130.here hx rfl (hb hby d1_17) rfl rfl ?_
    show Steps p.tables e below (T130.setTop (mkF m 18 #[.val (.ref r0), .val (.long (2147483647 : Int64)), .second, .val (.int (30 : Int32))] [(.ref r0), (.int (30 : Int32))])) _
    refine st131 _ ?_
    show Steps p.tables e below (T131.setTop (mkF m 21 #[.val (.ref r0), .val (.long (2147483647 : Int64)), .second, .val (.int (30 : Int32))] [(.int (1 : Int32)), (.int (30 : Int32))])) _
    refine XS.iadd X131.here hx rfl (hb hby d1_21) rfl ?_
    show Steps p.tables e below (T131.setTop (mkF m 22 #[.val (.ref r0), .val (.long (2147483647 : Int64)), .second, .val (.int (30 : Int32))] [(.int (31 : Int32))])) _
    refine XS.istoreN X131.here hx rfl (hb hby d1_22) rfl (l' := #[.val (.ref r0), .val (.long (2147483647 : Int64)), .second, .val (.int (31 : Int32))]) rfl ?_
    show Steps p.tables e below (T131.setTop (mkF m 23 #[.val (.ref r0), .val (.long (2147483647 : Int64)), .second, .val (.int (31 : Int32))] [])) _
    refine XS.goto X131.here hx rfl (pc0 := 23) (pc' := 4) rfl (hb hby d1_23) (by decide) (by decide) ?_
    show Steps p.tables e below (T131.setTop (mkF m 4 #[.val (.ref r0), .val (.long (2147483647 : Int64)), .second, .val (.int (31 : Int32))] [])) _
    refine XS.iloadN X131.here hx rfl (hb hby d1_4) rfl ?_
    show Steps p.tables e below (T131.setTop (mkF m 5 #[.val (.ref r0), .val (.long (2147483647 : Int64)), .second, .val (.int (31 : Int32))] [(.int (31 : Int32))])) _
    refine XS.bipush X131.here hx rfl (hb hby d1_5) ?_
    show Steps p.tables e below (T131.setTop (mkF m 7 #[.val (.ref r0), .val (.long (2147483647 : Int64)), .second, .val (.int (31 : Int32))] [(.int (64 : Int32)), (.int (31 : Int32))])) _
    refine XS.icmpNo X131.here hx rfl (hb hby d1_7) rfl (tlt (by decide : (31 : Int32) < (64 : Int32))).2.1 ?_
    show Steps p.tables e below (T131.setTop (mkF m 10 #[.val (.ref r0), .val (.long (2147483647 : Int64)), .second, .val (.int (31 : Int32))] [])) _
    refine XS.lloadN X131.here hx rfl (hb hby d1_10) rfl ?_
    show Steps p.tables e below (T131.setTop (mkF m 11 #[.val (.ref r0), .val (.long (2147483647 : Int64)), .second, .val (.int (31 : Int32))] [(.long (2147483647 : Int64))])) _
    refine XS.lconst X131.here hx rfl (hb hby d1_11) ?_
    show Steps p.tables e below (T131.setTop (mkF m 12 #[.val (.ref r0), .val (.long (2147483647 : Int64)), .second, .val (.int (31 : Int32))] [(.long (1 : Int64)), (.long (2147483647 : Int64))])) _
    refine XS.iloadN X131.here hx rfl (hb hby d1_12) rfl ?_
    show Steps p.tables e below (T131.setTop (mkF m 13 #[.val (.ref r0), .val (.long (2147483647 : Int64)), .second, .val (.int (31 : Int32))] [(.int (31 : Int32)), (.long (1 : Int64)), (.long (2147483647 : Int64))])) _
    refine XS.lshl X131.here hx rfl (hb hby d1_13) rfl ?_
    show Steps p.tables e below (T131.setTop (mkF m 14 #[.val (.ref r0), .val (.long (2147483647 : Int64)), .second, .val (.int (31 : Int32))] [(.long ((1 : Int64) <<< ((31 : Int32) &&& 0x3f).toInt64)), (.long (2147483647 : Int64))])) _
    refine XS.lor X131.here hx rfl (hb hby d1_14) rfl ?_
    show Steps p.tables e below (T131.setTop (mkF m 15 #[.val (.ref r0), .val (.long (2147483647 : Int64)), .second, .val (.int (31 : Int32))] [(.long ((2147483647 : Int64) ||| ((1 : Int64) <<< ((31 : Int32) &&& 0x3f).toInt64)))])) _
    rw [show ((2147483647 : Int64) ||| ((1 : Int64) <<< ((31 : Int32) &&& 0x3f).toInt64)) = (4294967295 : Int64) from by decide +kernel]
    refine XS.lstoreN X131.here hx rfl (hb hby d1_15) rfl (l' := #[.val (.ref r0), .val (.long (4294967295 : Int64)), .second, .val (.int (31 : Int32))]) rfl ?_
    show Steps p.tables e below (T131.setTop (mkF m 16 #[.val (.ref r0), .val (.long (4294967295 : Int64)), .second, .val (.int (31 : Int32))] [])) _
    refine XS.iloadN X131.here hx rfl (hb hby d1_16) rfl ?_
    show Steps p.tables e below (T131.setTop (mkF m 17 #[.val (.ref r0), .val (.long (4294967295 : Int64)), .second, .val (.int (31 : Int32))] [(.int (31 : Int32))])) _
    refine XS.aloadN X131.here hx rfl (hb hby d1_17) rfl rfl ?_
    show Steps p.tables e below (T131.setTop (mkF m 18 #[.val (.ref r0), .val (.long (4294967295 : Int64)), .second, .val (.int (31 : Int32))] [(.ref r0), (.int (31 : Int32))])) _
    refine st132 _ ?_
    show Steps p.tables e below (T132.setTop (mkF m 21 #[.val (.ref r0), .val (.long (4294967295 : Int64)), .second, .val (.int (31 : Int32))] [(.int (1 : Int32)), (.int (31 : Int32))])) _
    refine XS.iadd X132.here hx rfl (hb hby d1_21) rfl ?_
    show Steps p.tables e below (T132.setTop (mkF m 22 #[.val (.ref r0), .val (.long (4294967295 : Int64)), .second, .val (.int (31 : Int32))] [(.int (32 : Int32))])) _
    refine XS.istoreN X132.here hx rfl (hb hby d1_22) rfl (l' := #[.val (.ref r0), .val (.long (4294967295 : Int64)), .second, .val (.int (32 : Int32))]) rfl ?_
    show Steps p.tables e below (T132.setTop (mkF m 23 #[.val (.ref r0), .val (.long (4294967295 : Int64)), .second, .val (.int (32 : Int32))] [])) _
    refine XS.goto X132.here hx rfl (pc0 := 23) (pc' := 4) rfl (hb hby d1_23) (by decide) (by decide) ?_
    show Steps p.tables e below (T132.setTop (mkF m 4 #[.val (.ref r0), .val (.long (4294967295 : Int64)), .second, .val (.int (32 : Int32))] [])) _
    refine XS.iloadN X132.here hx rfl (hb hby d1_4) rfl ?_
    show Steps p.tables e below (T132.setTop (mkF m 5 #[.val (.ref r0), .val (.long (4294967295 : Int64)), .second, .val (.int (32 : Int32))] [(.int (32 : Int32))])) _
    refine XS.bipush X132.here hx rfl (hb hby d1_5) ?_
    show Steps p.tables e below (T132.setTop (mkF m 7 #[.val (.ref r0), .val (.long (4294967295 : Int64)), .second, .val (.int (32 : Int32))] [(.int (64 : Int32)), (.int (32 : Int32))])) _
    refine XS.icmpNo X132.here hx rfl (hb hby d1_7) rfl (tlt (by decide : (32 : Int32) < (64 : Int32))).2.1 ?_
    show Steps p.tables e below (T132.setTop (mkF m 10 #[.val (.ref r0), .val (.long (4294967295 : Int64)), .second, .val (.int (32 : Int32))] [])) _
    refine XS.lloadN X132.here hx rfl (hb hby d1_10) rfl ?_
    show Steps p.tables e below (T132.setTop (mkF m 11 #[.val (.ref r0), .val (.long (4294967295 : Int64)), .second, .val (.int (32 : Int32))] [(.long (4294967295 : Int64))])) _
    refine XS.lconst X132.here hx rfl (hb hby d1_11) ?_
    show Steps p.tables e below (T132.setTop (mkF m 12 #[.val (.ref r0), .val (.long (4294967295 : Int64)), .second, .val (.int (32 : Int32))] [(.long (1 : Int64)), (.long (4294967295 : Int64))])) _
    refine XS.iloadN X132.here hx rfl (hb hby d1_12) rfl ?_
    show Steps p.tables e below (T132.setTop (mkF m 13 #[.val (.ref r0), .val (.long (4294967295 : Int64)), .second, .val (.int (32 : Int32))] [(.int (32 : Int32)), (.long (1 : Int64)), (.long (4294967295 : Int64))])) _
    refine XS.lshl X132.here hx rfl (hb hby d1_13) rfl ?_
    show Steps p.tables e below (T132.setTop (mkF m 14 #[.val (.ref r0), .val (.long (4294967295 : Int64)), .second, .val (.int (32 : Int32))] [(.long ((1 : Int64) <<< ((32 : Int32) &&& 0x3f).toInt64)), (.long (4294967295 : Int64))])) _
    refine XS.lor X132.here hx rfl (hb hby d1_14) rfl ?_
    show Steps p.tables e below (T132.setTop (mkF m 15 #[.val (.ref r0), .val (.long (4294967295 : Int64)), .second, .val (.int (32 : Int32))] [(.long ((4294967295 : Int64) ||| ((1 : Int64) <<< ((32 : Int32) &&& 0x3f).toInt64)))])) _
    rw [show ((4294967295 : Int64) ||| ((1 : Int64) <<< ((32 : Int32) &&& 0x3f).toInt64)) = (8589934591 : Int64) from by decide +kernel]
    refine XS.lstoreN X132.here hx rfl (hb hby d1_15) rfl (l' := #[.val (.ref r0), .val (.long (8589934591 : Int64)), .second, .val (.int (32 : Int32))]) rfl ?_
    show Steps p.tables e below (T132.setTop (mkF m 16 #[.val (.ref r0), .val (.long (8589934591 : Int64)), .second, .val (.int (32 : Int32))] [])) _
    refine XS.iloadN X132.here hx rfl (hb hby d1_16) rfl ?_
    show Steps p.tables e below (T132.setTop (mkF m 17 #[.val (.ref r0), .val (.long (8589934591 : Int64)), .second, .val (.int (32 : Int32))] [(.int (32 : Int32))])) _
    refine XS.aloadN X132.here hx rfl (hb hby d1_17) rfl rfl ?_
    show Steps p.tables e below (T132.setTop (mkF m 18 #[.val (.ref r0), .val (.long (8589934591 : Int64)), .second, .val (.int (32 : Int32))] [(.ref r0), (.int (32 : Int32))])) _
    refine st133 _ ?_
    show Steps p.tables e below (T133.setTop (mkF m 21 #[.val (.ref r0), .val (.long (8589934591 : Int64)), .second, .val (.int (32 : Int32))] [(.int (1 : Int32)), (.int (32 : Int32))])) _
    refine XS.iadd X133.here hx rfl (hb hby d1_21) rfl ?_
    show Steps p.tables e below (T133.setTop (mkF m 22 #[.val (.ref r0), .val (.long (8589934591 : Int64)), .second, .val (.int (32 : Int32))] [(.int (33 : Int32))])) _
    refine XS.istoreN X133.here hx rfl (hb hby d1_22) rfl (l' := #[.val (.ref r0), .val (.long (8589934591 : Int64)), .second, .val (.int (33 : Int32))]) rfl ?_
    show Steps p.tables e below (T133.setTop (mkF m 23 #[.val (.ref r0), .val (.long (8589934591 : Int64)), .second, .val (.int (33 : Int32))] [])) _
    refine XS.goto X133.here hx rfl (pc0 := 23) (pc' := 4) rfl (hb hby d1_23) (by decide) (by decide) ?_
    show Steps p.tables e below (T133.setTop (mkF m 4 #[.val (.ref r0), .val (.long (8589934591 : Int64)), .second, .val (.int (33 : Int32))] [])) _
    refine XS.iloadN X133.here hx rfl (hb hby d1_4) rfl ?_
    show Steps p.tables e below (T133.setTop (mkF m 5 #[.val (.ref r0), .val (.long (8589934591 : Int64)), .second, .val (.int (33 : Int32))] [(.int (33 : Int32))])) _
    refine XS.bipush X133.here hx rfl (hb hby d1_5) ?_
    show Steps p.tables e below (T133.setTop (mkF m 7 #[.val (.ref r0), .val (.long (8589934591 : Int64)), .second, .val (.int (33 : Int32))] [(.int (64 : Int32)), (.int (33 : Int32))])) _
    refine XS.icmpNo X133.here hx rfl (hb hby d1_7) rfl (tlt (by decide : (33 : Int32) < (64 : Int32))).2.1 ?_
    show Steps p.tables e below (T133.setTop (mkF m 10 #[.val (.ref r0), .val (.long (8589934591 : Int64)), .second, .val (.int (33 : Int32))] [])) _
    refine XS.lloadN X133.here hx rfl (hb hby d1_10) rfl ?_
    show Steps p.tables e below (T133.setTop (mkF m 11 #[.val (.ref r0), .val (.long (8589934591 : Int64)), .second, .val (.int (33 : Int32))] [(.long (8589934591 : Int64))])) _
    refine XS.lconst X133.here hx rfl (hb hby d1_11) ?_
    show Steps p.tables e below (T133.setTop (mkF m 12 #[.val (.ref r0), .val (.long (8589934591 : Int64)), .second, .val (.int (33 : Int32))] [(.long (1 : Int64)), (.long (8589934591 : Int64))])) _
    refine XS.iloadN X133.here hx rfl (hb hby d1_12) rfl ?_
    show Steps p.tables e below (T133.setTop (mkF m 13 #[.val (.ref r0), .val (.long (8589934591 : Int64)), .second, .val (.int (33 : Int32))] [(.int (33 : Int32)), (.long (1 : Int64)), (.long (8589934591 : Int64))])) _
    refine XS.lshl X133.here hx rfl (hb hby d1_13) rfl ?_
    show Steps p.tables e below (T133.setTop (mkF m 14 #[.val (.ref r0), .val (.long (8589934591 : Int64)), .second, .val (.int (33 : Int32))] [(.long ((1 : Int64) <<< ((33 : Int32) &&& 0x3f).toInt64)), (.long (8589934591 : Int64))])) _
    refine XS.lor X133.here hx rfl (hb hby d1_14) rfl ?_
    show Steps p.tables e below (T133.setTop (mkF m 15 #[.val (.ref r0), .val (.long (8589934591 : Int64)), .second, .val (.int (33 : Int32))] [(.long ((8589934591 : Int64) ||| ((1 : Int64) <<< ((33 : Int32) &&& 0x3f).toInt64)))])) _
    rw [show ((8589934591 : Int64) ||| ((1 : Int64) <<< ((33 : Int32) &&& 0x3f).toInt64)) = (17179869183 : Int64) from by decide +kernel]
    refine XS.lstoreN X133.here hx rfl (hb hby d1_15) rfl (l' := #[.val (.ref r0), .val (.long (17179869183 : Int64)), .second, .val (.int (33 : Int32))]) rfl ?_
    show Steps p.tables e below (T133.setTop (mkF m 16 #[.val (.ref r0), .val (.long (17179869183 : Int64)), .second, .val (.int (33 : Int32))] [])) _
    refine XS.iloadN X133.here hx rfl (hb hby d1_16) rfl ?_
    show Steps p.tables e below (T133.setTop (mkF m 17 #[.val (.ref r0), .val (.long (17179869183 : Int64)), .second, .val (.int (33 : Int32))] [(.int (33 : Int32))])) _
    refine XS.aloadN X133.here hx rfl (hb hby d1_17) rfl rfl ?_
    show Steps p.tables e below (T133.setTop (mkF m 18 #[.val (.ref r0), .val (.long (17179869183 : Int64)), .second, .val (.int (33 : Int32))] [(.ref r0), (.int (33 : Int32))])) _
    refine st134 _ ?_
    show Steps p.tables e below (T134.setTop (mkF m 21 #[.val (.ref r0), .val (.long (17179869183 : Int64)), .second, .val (.int (33 : Int32))] [(.int (1 : Int32)), (.int (33 : Int32))])) _
    refine XS.iadd X134.here hx rfl (hb hby d1_21) rfl ?_
    show Steps p.tables e below (T134.setTop (mkF m 22 #[.val (.ref r0), .val (.long (17179869183 : Int64)), .second, .val (.int (33 : Int32))] [(.int (34 : Int32))])) _
    refine XS.istoreN X134.here hx rfl (hb hby d1_22) rfl (l' := #[.val (.ref r0), .val (.long (17179869183 : Int64)), .second, .val (.int (34 : Int32))]) rfl ?_
    show Steps p.tables e below (T134.setTop (mkF m 23 #[.val (.ref r0), .val (.long (17179869183 : Int64)), .second, .val (.int (34 : Int32))] [])) _
    refine XS.goto X134.here hx rfl (pc0 := 23) (pc' := 4) rfl (hb hby d1_23) (by decide) (by decide) ?_
    show Steps p.tables e below (T134.setTop (mkF m 4 #[.val (.ref r0), .val (.long (17179869183 : Int64)), .second, .val (.int (34 : Int32))] [])) _
    refine XS.iloadN X134.here hx rfl (hb hby d1_4) rfl ?_
    show Steps p.tables e below (T134.setTop (mkF m 5 #[.val (.ref r0), .val (.long (17179869183 : Int64)), .second, .val (.int (34 : Int32))] [(.int (34 : Int32))])) _
    refine XS.bipush X134.here hx rfl (hb hby d1_5) ?_
    show Steps p.tables e below (T134.setTop (mkF m 7 #[.val (.ref r0), .val (.long (17179869183 : Int64)), .second, .val (.int (34 : Int32))] [(.int (64 : Int32)), (.int (34 : Int32))])) _
    refine XS.icmpNo X134.here hx rfl (hb hby d1_7) rfl (tlt (by decide : (34 : Int32) < (64 : Int32))).2.1 ?_
    show Steps p.tables e below (T134.setTop (mkF m 10 #[.val (.ref r0), .val (.long (17179869183 : Int64)), .second, .val (.int (34 : Int32))] [])) _
    refine XS.lloadN X134.here hx rfl (hb hby d1_10) rfl ?_
    show Steps p.tables e below (T134.setTop (mkF m 11 #[.val (.ref r0), .val (.long (17179869183 : Int64)), .second, .val (.int (34 : Int32))] [(.long (17179869183 : Int64))])) _
    refine XS.lconst X134.here hx rfl (hb hby d1_11) ?_
    show Steps p.tables e below (T134.setTop (mkF m 12 #[.val (.ref r0), .val (.long (17179869183 : Int64)), .second, .val (.int (34 : Int32))] [(.long (1 : Int64)), (.long (17179869183 : Int64))])) _
    refine XS.iloadN X134.here hx rfl (hb hby d1_12) rfl ?_
    show Steps p.tables e below (T134.setTop (mkF m 13 #[.val (.ref r0), .val (.long (17179869183 : Int64)), .second, .val (.int (34 : Int32))] [(.int (34 : Int32)), (.long (1 : Int64)), (.long (17179869183 : Int64))])) _
    refine XS.lshl X134.here hx rfl (hb hby d1_13) rfl ?_
    show Steps p.tables e below (T134.setTop (mkF m 14 #[.val (.ref r0), .val (.long (17179869183 : Int64)), .second, .val (.int (34 : Int32))] [(.long ((1 : Int64) <<< ((34 : Int32) &&& 0x3f).toInt64)), (.long (17179869183 : Int64))])) _
    refine XS.lor X134.here hx rfl (hb hby d1_14) rfl ?_
    show Steps p.tables e below (T134.setTop (mkF m 15 #[.val (.ref r0), .val (.long (17179869183 : Int64)), .second, .val (.int (34 : Int32))] [(.long ((17179869183 : Int64) ||| ((1 : Int64) <<< ((34 : Int32) &&& 0x3f).toInt64)))])) _
    rw [show ((17179869183 : Int64) ||| ((1 : Int64) <<< ((34 : Int32) &&& 0x3f).toInt64)) = (34359738367 : Int64) from by decide +kernel]
    refine XS.lstoreN X134.here hx rfl (hb hby d1_15) rfl (l' := #[.val (.ref r0), .val (.long (34359738367 : Int64)), .second, .val (.int (34 : Int32))]) rfl ?_
    show Steps p.tables e below (T134.setTop (mkF m 16 #[.val (.ref r0), .val (.long (34359738367 : Int64)), .second, .val (.int (34 : Int32))] [])) _
    refine XS.iloadN X134.here hx rfl (hb hby d1_16) rfl ?_
    show Steps p.tables e below (T134.setTop (mkF m 17 #[.val (.ref r0), .val (.long (34359738367 : Int64)), .second, .val (.int (34 : Int32))] [(.int (34 : Int32))])) _
    refine XS.aloadN X134.here hx rfl (hb hby d1_17) rfl rfl ?_
    show Steps p.tables e below (T134.setTop (mkF m 18 #[.val (.ref r0), .val (.long (34359738367 : Int64)), .second, .val (.int (34 : Int32))] [(.ref r0), (.int (34 : Int32))])) _
    refine st135 _ ?_
    show Steps p.tables e below (T135.setTop (mkF m 21 #[.val (.ref r0), .val (.long (34359738367 : Int64)), .second, .val (.int (34 : Int32))] [(.int (1 : Int32)), (.int (34 : Int32))])) _
    refine XS.iadd X135.here hx rfl (hb hby d1_21) rfl ?_
    show Steps p.tables e below (T135.setTop (mkF m 22 #[.val (.ref r0), .val (.long (34359738367 : Int64)), .second, .val (.int (34 : Int32))] [(.int (35 : Int32))])) _
    refine XS.istoreN X135.here hx rfl (hb hby d1_22) rfl (l' := #[.val (.ref r0), .val (.long (34359738367 : Int64)), .second, .val (.int (35 : Int32))]) rfl ?_
    show Steps p.tables e below (T135.setTop (mkF m 23 #[.val (.ref r0), .val (.long (34359738367 : Int64)), .second, .val (.int (35 : Int32))] [])) _
    refine XS.goto X135.here hx rfl (pc0 := 23) (pc' := 4) rfl (hb hby d1_23) (by decide) (by decide) ?_
    show Steps p.tables e below (T135.setTop (mkF m 4 #[.val (.ref r0), .val (.long (34359738367 : Int64)), .second, .val (.int (35 : Int32))] [])) _
    refine XS.iloadN X135.here hx rfl (hb hby d1_4) rfl ?_
    show Steps p.tables e below (T135.setTop (mkF m 5 #[.val (.ref r0), .val (.long (34359738367 : Int64)), .second, .val (.int (35 : Int32))] [(.int (35 : Int32))])) _
    refine XS.bipush X135.here hx rfl (hb hby d1_5) ?_
    show Steps p.tables e below (T135.setTop (mkF m 7 #[.val (.ref r0), .val (.long (34359738367 : Int64)), .second, .val (.int (35 : Int32))] [(.int (64 : Int32)), (.int (35 : Int32))])) _
    refine XS.icmpNo X135.here hx rfl (hb hby d1_7) rfl (tlt (by decide : (35 : Int32) < (64 : Int32))).2.1 ?_
    show Steps p.tables e below (T135.setTop (mkF m 10 #[.val (.ref r0), .val (.long (34359738367 : Int64)), .second, .val (.int (35 : Int32))] [])) _
    refine XS.lloadN X135.here hx rfl (hb hby d1_10) rfl ?_
    show Steps p.tables e below (T135.setTop (mkF m 11 #[.val (.ref r0), .val (.long (34359738367 : Int64)), .second, .val (.int (35 : Int32))] [(.long (34359738367 : Int64))])) _
    refine XS.lconst X135.here hx rfl (hb hby d1_11) ?_
    show Steps p.tables e below (T135.setTop (mkF m 12 #[.val (.ref r0), .val (.long (34359738367 : Int64)), .second, .val (.int (35 : Int32))] [(.long (1 : Int64)), (.long (34359738367 : Int64))])) _
    refine XS.iloadN X135.here hx rfl (hb hby d1_12) rfl ?_
    show Steps p.tables e below (T135.setTop (mkF m 13 #[.val (.ref r0), .val (.long (34359738367 : Int64)), .second, .val (.int (35 : Int32))] [(.int (35 : Int32)), (.long (1 : Int64)), (.long (34359738367 : Int64))])) _
    refine XS.lshl X135.here hx rfl (hb hby d1_13) rfl ?_
    show Steps p.tables e below (T135.setTop (mkF m 14 #[.val (.ref r0), .val (.long (34359738367 : Int64)), .second, .val (.int (35 : Int32))] [(.long ((1 : Int64) <<< ((35 : Int32) &&& 0x3f).toInt64)), (.long (34359738367 : Int64))])) _
    refine XS.lor X135.here hx rfl (hb hby d1_14) rfl ?_
    show Steps p.tables e below (T135.setTop (mkF m 15 #[.val (.ref r0), .val (.long (34359738367 : Int64)), .second, .val (.int (35 : Int32))] [(.long ((34359738367 : Int64) ||| ((1 : Int64) <<< ((35 : Int32) &&& 0x3f).toInt64)))])) _
    rw [show ((34359738367 : Int64) ||| ((1 : Int64) <<< ((35 : Int32) &&& 0x3f).toInt64)) = (68719476735 : Int64) from by decide +kernel]
    refine XS.lstoreN X135.here hx rfl (hb hby d1_15) rfl (l' := #[.val (.ref r0), .val (.long (68719476735 : Int64)), .second, .val (.int (35 : Int32))]) rfl ?_
    show Steps p.tables e below (T135.setTop (mkF m 16 #[.val (.ref r0), .val (.long (68719476735 : Int64)), .second, .val (.int (35 : Int32))] [])) _
    refine XS.iloadN X135.here hx rfl (hb hby d1_16) rfl ?_
    show Steps p.tables e below (T135.setTop (mkF m 17 #[.val (.ref r0), .val (.long (68719476735 : Int64)), .second, .val (.int (35 : Int32))] [(.int (35 : Int32))])) _
    refine XS.aloadN X135.here hx rfl (hb hby d1_17) rfl rfl ?_
    show Steps p.tables e below (T135.setTop (mkF m 18 #[.val (.ref r0), .val (.long (68719476735 : Int64)), .second, .val (.int (35 : Int32))] [(.ref r0), (.int (35 : Int32))])) _
    refine st136 _ ?_
    show Steps p.tables e below (T136.setTop (mkF m 21 #[.val (.ref r0), .val (.long (68719476735 : Int64)), .second, .val (.int (35 : Int32))] [(.int (1 : Int32)), (.int (35 : Int32))])) _
    refine XS.iadd X136.here hx rfl (hb hby d1_21) rfl ?_
    show Steps p.tables e below (T136.setTop (mkF m 22 #[.val (.ref r0), .val (.long (68719476735 : Int64)), .second, .val (.int (35 : Int32))] [(.int (36 : Int32))])) _
    refine XS.istoreN X136.here hx rfl (hb hby d1_22) rfl (l' := #[.val (.ref r0), .val (.long (68719476735 : Int64)), .second, .val (.int (36 : Int32))]) rfl ?_
    show Steps p.tables e below (T136.setTop (mkF m 23 #[.val (.ref r0), .val (.long (68719476735 : Int64)), .second, .val (.int (36 : Int32))] [])) _
    refine XS.goto X136.here hx rfl (pc0 := 23) (pc' := 4) rfl (hb hby d1_23) (by decide) (by decide) ?_
    show Steps p.tables e below (T136.setTop (mkF m 4 #[.val (.ref r0), .val (.long (68719476735 : Int64)), .second, .val (.int (36 : Int32))] [])) _
    refine XS.iloadN X136.here hx rfl (hb hby d1_4) rfl ?_
    show Steps p.tables e below (T136.setTop (mkF m 5 #[.val (.ref r0), .val (.long (68719476735 : Int64)), .second, .val (.int (36 : Int32))] [(.int (36 : Int32))])) _
    refine XS.bipush X136.here hx rfl (hb hby d1_5) ?_
    show Steps p.tables e below (T136.setTop (mkF m 7 #[.val (.ref r0), .val (.long (68719476735 : Int64)), .second, .val (.int (36 : Int32))] [(.int (64 : Int32)), (.int (36 : Int32))])) _
    refine XS.icmpNo X136.here hx rfl (hb hby d1_7) rfl (tlt (by decide : (36 : Int32) < (64 : Int32))).2.1 ?_
    show Steps p.tables e below (T136.setTop (mkF m 10 #[.val (.ref r0), .val (.long (68719476735 : Int64)), .second, .val (.int (36 : Int32))] [])) _
    refine XS.lloadN X136.here hx rfl (hb hby d1_10) rfl ?_
    show Steps p.tables e below (T136.setTop (mkF m 11 #[.val (.ref r0), .val (.long (68719476735 : Int64)), .second, .val (.int (36 : Int32))] [(.long (68719476735 : Int64))])) _
    refine XS.lconst X136.here hx rfl (hb hby d1_11) ?_
    show Steps p.tables e below (T136.setTop (mkF m 12 #[.val (.ref r0), .val (.long (68719476735 : Int64)), .second, .val (.int (36 : Int32))] [(.long (1 : Int64)), (.long (68719476735 : Int64))])) _
    refine XS.iloadN X136.here hx rfl (hb hby d1_12) rfl ?_
    show Steps p.tables e below (T136.setTop (mkF m 13 #[.val (.ref r0), .val (.long (68719476735 : Int64)), .second, .val (.int (36 : Int32))] [(.int (36 : Int32)), (.long (1 : Int64)), (.long (68719476735 : Int64))])) _
    refine XS.lshl X136.here hx rfl (hb hby d1_13) rfl ?_
    show Steps p.tables e below (T136.setTop (mkF m 14 #[.val (.ref r0), .val (.long (68719476735 : Int64)), .second, .val (.int (36 : Int32))] [(.long ((1 : Int64) <<< ((36 : Int32) &&& 0x3f).toInt64)), (.long (68719476735 : Int64))])) _
    refine XS.lor X136.here hx rfl (hb hby d1_14) rfl ?_
    show Steps p.tables e below (T136.setTop (mkF m 15 #[.val (.ref r0), .val (.long (68719476735 : Int64)), .second, .val (.int (36 : Int32))] [(.long ((68719476735 : Int64) ||| ((1 : Int64) <<< ((36 : Int32) &&& 0x3f).toInt64)))])) _
    rw [show ((68719476735 : Int64) ||| ((1 : Int64) <<< ((36 : Int32) &&& 0x3f).toInt64)) = (137438953471 : Int64) from by decide +kernel]
    refine XS.lstoreN X136.here hx rfl (hb hby d1_15) rfl (l' := #[.val (.ref r0), .val (.long (137438953471 : Int64)), .second, .val (.int (36 : Int32))]) rfl ?_
    show Steps p.tables e below (T136.setTop (mkF m 16 #[.val (.ref r0), .val (.long (137438953471 : Int64)), .second, .val (.int (36 : Int32))] [])) _
    refine XS.iloadN X136.here hx rfl (hb hby d1_16) rfl ?_
    show Steps p.tables e below (T136.setTop (mkF m 17 #[.val (.ref r0), .val (.long (137438953471 : Int64)), .second, .val (.int (36 : Int32))] [(.int (36 : Int32))])) _
    refine XS.aloadN X136.here hx rfl (hb hby d1_17) rfl rfl ?_
    show Steps p.tables e below (T136.setTop (mkF m 18 #[.val (.ref r0), .val (.long (137438953471 : Int64)), .second, .val (.int (36 : Int32))] [(.ref r0), (.int (36 : Int32))])) _
    refine st137 _ ?_
    show Steps p.tables e below (T137.setTop (mkF m 21 #[.val (.ref r0), .val (.long (137438953471 : Int64)), .second, .val (.int (36 : Int32))] [(.int (1 : Int32)), (.int (36 : Int32))])) _
    refine XS.iadd X137.here hx rfl (hb hby d1_21) rfl ?_
    show Steps p.tables e below (T137.setTop (mkF m 22 #[.val (.ref r0), .val (.long (137438953471 : Int64)), .second, .val (.int (36 : Int32))] [(.int (37 : Int32))])) _
    refine XS.istoreN X137.here hx rfl (hb hby d1_22) rfl (l' := #[.val (.ref r0), .val (.long (137438953471 : Int64)), .second, .val (.int (37 : Int32))]) rfl ?_
    show Steps p.tables e below (T137.setTop (mkF m 23 #[.val (.ref r0), .val (.long (137438953471 : Int64)), .second, .val (.int (37 : Int32))] [])) _
    refine XS.goto X137.here hx rfl (pc0 := 23) (pc' := 4) rfl (hb hby d1_23) (by decide) (by decide) ?_
    show Steps p.tables e below (T137.setTop (mkF m 4 #[.val (.ref r0), .val (.long (137438953471 : Int64)), .second, .val (.int (37 : Int32))] [])) _
    refine XS.iloadN X137.here hx rfl (hb hby d1_4) rfl ?_
    show Steps p.tables e below (T137.setTop (mkF m 5 #[.val (.ref r0), .val (.long (137438953471 : Int64)), .second, .val (.int (37 : Int32))] [(.int (37 : Int32))])) _
    refine XS.bipush X137.here hx rfl (hb hby d1_5) ?_
    show Steps p.tables e below (T137.setTop (mkF m 7 #[.val (.ref r0), .val (.long (137438953471 : Int64)), .second, .val (.int (37 : Int32))] [(.int (64 : Int32)), (.int (37 : Int32))])) _
    refine XS.icmpNo X137.here hx rfl (hb hby d1_7) rfl (tlt (by decide : (37 : Int32) < (64 : Int32))).2.1 ?_
    show Steps p.tables e below (T137.setTop (mkF m 10 #[.val (.ref r0), .val (.long (137438953471 : Int64)), .second, .val (.int (37 : Int32))] [])) _
    refine XS.lloadN X137.here hx rfl (hb hby d1_10) rfl ?_
    show Steps p.tables e below (T137.setTop (mkF m 11 #[.val (.ref r0), .val (.long (137438953471 : Int64)), .second, .val (.int (37 : Int32))] [(.long (137438953471 : Int64))])) _
    refine XS.lconst X137.here hx rfl (hb hby d1_11) ?_
    show Steps p.tables e below (T137.setTop (mkF m 12 #[.val (.ref r0), .val (.long (137438953471 : Int64)), .second, .val (.int (37 : Int32))] [(.long (1 : Int64)), (.long (137438953471 : Int64))])) _
    refine XS.iloadN X137.here hx rfl (hb hby d1_12) rfl ?_
    show Steps p.tables e below (T137.setTop (mkF m 13 #[.val (.ref r0), .val (.long (137438953471 : Int64)), .second, .val (.int (37 : Int32))] [(.int (37 : Int32)), (.long (1 : Int64)), (.long (137438953471 : Int64))])) _
    refine XS.lshl X137.here hx rfl (hb hby d1_13) rfl ?_
    show Steps p.tables e below (T137.setTop (mkF m 14 #[.val (.ref r0), .val (.long (137438953471 : Int64)), .second, .val (.int (37 : Int32))] [(.long ((1 : Int64) <<< ((37 : Int32) &&& 0x3f).toInt64)), (.long (137438953471 : Int64))])) _
    refine XS.lor X137.here hx rfl (hb hby d1_14) rfl ?_
    show Steps p.tables e below (T137.setTop (mkF m 15 #[.val (.ref r0), .val (.long (137438953471 : Int64)), .second, .val (.int (37 : Int32))] [(.long ((137438953471 : Int64) ||| ((1 : Int64) <<< ((37 : Int32) &&& 0x3f).toInt64)))])) _
    rw [show ((137438953471 : Int64) ||| ((1 : Int64) <<< ((37 : Int32) &&& 0x3f).toInt64)) = (274877906943 : Int64) from by decide +kernel]
    refine XS.lstoreN X137.here hx rfl (hb hby d1_15) rfl (l' := #[.val (.ref r0), .val (.long (274877906943 : Int64)), .second, .val (.int (37 : Int32))]) rfl ?_
    show Steps p.tables e below (T137.setTop (mkF m 16 #[.val (.ref r0), .val (.long (274877906943 : Int64)), .second, .val (.int (37 : Int32))] [])) _
    refine XS.iloadN X137.here hx rfl (hb hby d1_16) rfl ?_
    show Steps p.tables e below (T137.setTop (mkF m 17 #[.val (.ref r0), .val (.long (274877906943 : Int64)), .second, .val (.int (37 : Int32))] [(.int (37 : Int32))])) _
    refine XS.aloadN X137.here hx rfl (hb hby d1_17) rfl rfl ?_
    show Steps p.tables e below (T137.setTop (mkF m 18 #[.val (.ref r0), .val (.long (274877906943 : Int64)), .second, .val (.int (37 : Int32))] [(.ref r0), (.int (37 : Int32))])) _
    refine st138 _ ?_
    show Steps p.tables e below (T138.setTop (mkF m 21 #[.val (.ref r0), .val (.long (274877906943 : Int64)), .second, .val (.int (37 : Int32))] [(.int (1 : Int32)), (.int (37 : Int32))])) _
    refine XS.iadd X138.here hx rfl (hb hby d1_21) rfl ?_
    show Steps p.tables e below (T138.setTop (mkF m 22 #[.val (.ref r0), .val (.long (274877906943 : Int64)), .second, .val (.int (37 : Int32))] [(.int (38 : Int32))])) _
    refine XS.istoreN X138.here hx rfl (hb hby d1_22) rfl (l' := #[.val (.ref r0), .val (.long (274877906943 : Int64)), .second, .val (.int (38 : Int32))]) rfl ?_
    show Steps p.tables e below (T138.setTop (mkF m 23 #[.val (.ref r0), .val (.long (274877906943 : Int64)), .second, .val (.int (38 : Int32))] [])) _
    refine XS.goto X138.here hx rfl (pc0 := 23) (pc' := 4) rfl (hb hby d1_23) (by decide) (by decide) ?_
    show Steps p.tables e below (T138.setTop (mkF m 4 #[.val (.ref r0), .val (.long (274877906943 : Int64)), .second, .val (.int (38 : Int32))] [])) _
    refine XS.iloadN X138.here hx rfl (hb hby d1_4) rfl ?_
    show Steps p.tables e below (T138.setTop (mkF m 5 #[.val (.ref r0), .val (.long (274877906943 : Int64)), .second, .val (.int (38 : Int32))] [(.int (38 : Int32))])) _
    refine XS.bipush X138.here hx rfl (hb hby d1_5) ?_
    show Steps p.tables e below (T138.setTop (mkF m 7 #[.val (.ref r0), .val (.long (274877906943 : Int64)), .second, .val (.int (38 : Int32))] [(.int (64 : Int32)), (.int (38 : Int32))])) _
    refine XS.icmpNo X138.here hx rfl (hb hby d1_7) rfl (tlt (by decide : (38 : Int32) < (64 : Int32))).2.1 ?_
    show Steps p.tables e below (T138.setTop (mkF m 10 #[.val (.ref r0), .val (.long (274877906943 : Int64)), .second, .val (.int (38 : Int32))] [])) _
    refine XS.lloadN X138.here hx rfl (hb hby d1_10) rfl ?_
    show Steps p.tables e below (T138.setTop (mkF m 11 #[.val (.ref r0), .val (.long (274877906943 : Int64)), .second, .val (.int (38 : Int32))] [(.long (274877906943 : Int64))])) _
    refine XS.lconst X138.here hx rfl (hb hby d1_11) ?_
    show Steps p.tables e below (T138.setTop (mkF m 12 #[.val (.ref r0), .val (.long (274877906943 : Int64)), .second, .val (.int (38 : Int32))] [(.long (1 : Int64)), (.long (274877906943 : Int64))])) _
    refine XS.iloadN X138.here hx rfl (hb hby d1_12) rfl ?_
    show Steps p.tables e below (T138.setTop (mkF m 13 #[.val (.ref r0), .val (.long (274877906943 : Int64)), .second, .val (.int (38 : Int32))] [(.int (38 : Int32)), (.long (1 : Int64)), (.long (274877906943 : Int64))])) _
    refine XS.lshl X138.here hx rfl (hb hby d1_13) rfl ?_
    show Steps p.tables e below (T138.setTop (mkF m 14 #[.val (.ref r0), .val (.long (274877906943 : Int64)), .second, .val (.int (38 : Int32))] [(.long ((1 : Int64) <<< ((38 : Int32) &&& 0x3f).toInt64)), (.long (274877906943 : Int64))])) _
    refine XS.lor X138.here hx rfl (hb hby d1_14) rfl ?_
    show Steps p.tables e below (T138.setTop (mkF m 15 #[.val (.ref r0), .val (.long (274877906943 : Int64)), .second, .val (.int (38 : Int32))] [(.long ((274877906943 : Int64) ||| ((1 : Int64) <<< ((38 : Int32) &&& 0x3f).toInt64)))])) _
    rw [show ((274877906943 : Int64) ||| ((1 : Int64) <<< ((38 : Int32) &&& 0x3f).toInt64)) = (549755813887 : Int64) from by decide +kernel]
    refine XS.lstoreN X138.here hx rfl (hb hby d1_15) rfl (l' := #[.val (.ref r0), .val (.long (549755813887 : Int64)), .second, .val (.int (38 : Int32))]) rfl ?_
    show Steps p.tables e below (T138.setTop (mkF m 16 #[.val (.ref r0), .val (.long (549755813887 : Int64)), .second, .val (.int (38 : Int32))] [])) _
    refine XS.iloadN X138.here hx rfl (hb hby d1_16) rfl ?_
    show Steps p.tables e below (T138.setTop (mkF m 17 #[.val (.ref r0), .val (.long (549755813887 : Int64)), .second, .val (.int (38 : Int32))] [(.int (38 : Int32))])) _
    refine XS.aloadN X138.here hx rfl (hb hby d1_17) rfl rfl ?_
    show Steps p.tables e below (T138.setTop (mkF m 18 #[.val (.ref r0), .val (.long (549755813887 : Int64)), .second, .val (.int (38 : Int32))] [(.ref r0), (.int (38 : Int32))])) _
    refine st139 _ ?_
    show Steps p.tables e below (T139.setTop (mkF m 21 #[.val (.ref r0), .val (.long (549755813887 : Int64)), .second, .val (.int (38 : Int32))] [(.int (1 : Int32)), (.int (38 : Int32))])) _
    refine XS.iadd X139.here hx rfl (hb hby d1_21) rfl ?_
    show Steps p.tables e below (T139.setTop (mkF m 22 #[.val (.ref r0), .val (.long (549755813887 : Int64)), .second, .val (.int (38 : Int32))] [(.int (39 : Int32))])) _
    refine XS.istoreN X139.here hx rfl (hb hby d1_22) rfl (l' := #[.val (.ref r0), .val (.long (549755813887 : Int64)), .second, .val (.int (39 : Int32))]) rfl ?_
    show Steps p.tables e below (T139.setTop (mkF m 23 #[.val (.ref r0), .val (.long (549755813887 : Int64)), .second, .val (.int (39 : Int32))] [])) _
    refine XS.goto X139.here hx rfl (pc0 := 23) (pc' := 4) rfl (hb hby d1_23) (by decide) (by decide) ?_
    show Steps p.tables e below (T139.setTop (mkF m 4 #[.val (.ref r0), .val (.long (549755813887 : Int64)), .second, .val (.int (39 : Int32))] [])) _
    refine XS.iloadN X139.here hx rfl (hb hby d1_4) rfl ?_
    show Steps p.tables e below (T139.setTop (mkF m 5 #[.val (.ref r0), .val (.long (549755813887 : Int64)), .second, .val (.int (39 : Int32))] [(.int (39 : Int32))])) _
    refine XS.bipush X139.here hx rfl (hb hby d1_5) ?_
    show Steps p.tables e below (T139.setTop (mkF m 7 #[.val (.ref r0), .val (.long (549755813887 : Int64)), .second, .val (.int (39 : Int32))] [(.int (64 : Int32)), (.int (39 : Int32))])) _
    refine XS.icmpNo X139.here hx rfl (hb hby d1_7) rfl (tlt (by decide : (39 : Int32) < (64 : Int32))).2.1 ?_
    show Steps p.tables e below (T139.setTop (mkF m 10 #[.val (.ref r0), .val (.long (549755813887 : Int64)), .second, .val (.int (39 : Int32))] [])) _
    refine XS.lloadN X139.here hx rfl (hb hby d1_10) rfl ?_
    show Steps p.tables e below (T139.setTop (mkF m 11 #[.val (.ref r0), .val (.long (549755813887 : Int64)), .second, .val (.int (39 : Int32))] [(.long (549755813887 : Int64))])) _
    refine XS.lconst X139.here hx rfl (hb hby d1_11) ?_
    show Steps p.tables e below (T139.setTop (mkF m 12 #[.val (.ref r0), .val (.long (549755813887 : Int64)), .second, .val (.int (39 : Int32))] [(.long (1 : Int64)), (.long (549755813887 : Int64))])) _
    refine XS.iloadN X139.here hx rfl (hb hby d1_12) rfl ?_
    show Steps p.tables e below (T139.setTop (mkF m 13 #[.val (.ref r0), .val (.long (549755813887 : Int64)), .second, .val (.int (39 : Int32))] [(.int (39 : Int32)), (.long (1 : Int64)), (.long (549755813887 : Int64))])) _
    refine XS.lshl X139.here hx rfl (hb hby d1_13) rfl ?_
    show Steps p.tables e below (T139.setTop (mkF m 14 #[.val (.ref r0), .val (.long (549755813887 : Int64)), .second, .val (.int (39 : Int32))] [(.long ((1 : Int64) <<< ((39 : Int32) &&& 0x3f).toInt64)), (.long (549755813887 : Int64))])) _
    refine XS.lor X139.here hx rfl (hb hby d1_14) rfl ?_
    show Steps p.tables e below (T139.setTop (mkF m 15 #[.val (.ref r0), .val (.long (549755813887 : Int64)), .second, .val (.int (39 : Int32))] [(.long ((549755813887 : Int64) ||| ((1 : Int64) <<< ((39 : Int32) &&& 0x3f).toInt64)))])) _
    rw [show ((549755813887 : Int64) ||| ((1 : Int64) <<< ((39 : Int32) &&& 0x3f).toInt64)) = (1099511627775 : Int64) from by decide +kernel]
    refine XS.lstoreN X139.here hx rfl (hb hby d1_15) rfl (l' := #[.val (.ref r0), .val (.long (1099511627775 : Int64)), .second, .val (.int (39 : Int32))]) rfl ?_
    show Steps p.tables e below (T139.setTop (mkF m 16 #[.val (.ref r0), .val (.long (1099511627775 : Int64)), .second, .val (.int (39 : Int32))] [])) _
    refine XS.iloadN X139.here hx rfl (hb hby d1_16) rfl ?_
    show Steps p.tables e below (T139.setTop (mkF m 17 #[.val (.ref r0), .val (.long (1099511627775 : Int64)), .second, .val (.int (39 : Int32))] [(.int (39 : Int32))])) _
    refine XS.aloadN X139.here hx rfl (hb hby d1_17) rfl rfl ?_
    show Steps p.tables e below (T139.setTop (mkF m 18 #[.val (.ref r0), .val (.long (1099511627775 : Int64)), .second, .val (.int (39 : Int32))] [(.ref r0), (.int (39 : Int32))])) _
    refine st140 _ ?_
    show Steps p.tables e below (T140.setTop (mkF m 21 #[.val (.ref r0), .val (.long (1099511627775 : Int64)), .second, .val (.int (39 : Int32))] [(.int (1 : Int32)), (.int (39 : Int32))])) _
    refine XS.iadd X140.here hx rfl (hb hby d1_21) rfl ?_
    show Steps p.tables e below (T140.setTop (mkF m 22 #[.val (.ref r0), .val (.long (1099511627775 : Int64)), .second, .val (.int (39 : Int32))] [(.int (40 : Int32))])) _
    refine XS.istoreN X140.here hx rfl (hb hby d1_22) rfl (l' := #[.val (.ref r0), .val (.long (1099511627775 : Int64)), .second, .val (.int (40 : Int32))]) rfl ?_
    show Steps p.tables e below (T140.setTop (mkF m 23 #[.val (.ref r0), .val (.long (1099511627775 : Int64)), .second, .val (.int (40 : Int32))] [])) _
    refine XS.goto X140.here hx rfl (pc0 := 23) (pc' := 4) rfl (hb hby d1_23) (by decide) (by decide) ?_
    show Steps p.tables e below (T140.setTop (mkF m 4 #[.val (.ref r0), .val (.long (1099511627775 : Int64)), .second, .val (.int (40 : Int32))] [])) _
    refine XS.iloadN X140.here hx rfl (hb hby d1_4) rfl ?_
    show Steps p.tables e below (T140.setTop (mkF m 5 #[.val (.ref r0), .val (.long (1099511627775 : Int64)), .second, .val (.int (40 : Int32))] [(.int (40 : Int32))])) _
    refine XS.bipush X140.here hx rfl (hb hby d1_5) ?_
    show Steps p.tables e below (T140.setTop (mkF m 7 #[.val (.ref r0), .val (.long (1099511627775 : Int64)), .second, .val (.int (40 : Int32))] [(.int (64 : Int32)), (.int (40 : Int32))])) _
    refine XS.icmpNo X140.here hx rfl (hb hby d1_7) rfl (tlt (by decide : (40 : Int32) < (64 : Int32))).2.1 ?_
    show Steps p.tables e below (T140.setTop (mkF m 10 #[.val (.ref r0), .val (.long (1099511627775 : Int64)), .second, .val (.int (40 : Int32))] [])) _
    refine XS.lloadN X140.here hx rfl (hb hby d1_10) rfl ?_
    show Steps p.tables e below (T140.setTop (mkF m 11 #[.val (.ref r0), .val (.long (1099511627775 : Int64)), .second, .val (.int (40 : Int32))] [(.long (1099511627775 : Int64))])) _
    refine XS.lconst X140.here hx rfl (hb hby d1_11) ?_
    show Steps p.tables e below (T140.setTop (mkF m 12 #[.val (.ref r0), .val (.long (1099511627775 : Int64)), .second, .val (.int (40 : Int32))] [(.long (1 : Int64)), (.long (1099511627775 : Int64))])) _
    refine XS.iloadN X140.here hx rfl (hb hby d1_12) rfl ?_
    show Steps p.tables e below (T140.setTop (mkF m 13 #[.val (.ref r0), .val (.long (1099511627775 : Int64)), .second, .val (.int (40 : Int32))] [(.int (40 : Int32)), (.long (1 : Int64)), (.long (1099511627775 : Int64))])) _
    refine XS.lshl X140.here hx rfl (hb hby d1_13) rfl ?_
    show Steps p.tables e below (T140.setTop (mkF m 14 #[.val (.ref r0), .val (.long (1099511627775 : Int64)), .second, .val (.int (40 : Int32))] [(.long ((1 : Int64) <<< ((40 : Int32) &&& 0x3f).toInt64)), (.long (1099511627775 : Int64))])) _
    refine XS.lor X140.here hx rfl (hb hby d1_14) rfl ?_
    show Steps p.tables e below (T140.setTop (mkF m 15 #[.val (.ref r0), .val (.long (1099511627775 : Int64)), .second, .val (.int (40 : Int32))] [(.long ((1099511627775 : Int64) ||| ((1 : Int64) <<< ((40 : Int32) &&& 0x3f).toInt64)))])) _
    rw [show ((1099511627775 : Int64) ||| ((1 : Int64) <<< ((40 : Int32) &&& 0x3f).toInt64)) = (2199023255551 : Int64) from by decide +kernel]
    refine XS.lstoreN X140.here hx rfl (hb hby d1_15) rfl (l' := #[.val (.ref r0), .val (.long (2199023255551 : Int64)), .second, .val (.int (40 : Int32))]) rfl ?_
    show Steps p.tables e below (T140.setTop (mkF m 16 #[.val (.ref r0), .val (.long (2199023255551 : Int64)), .second, .val (.int (40 : Int32))] [])) _
    refine XS.iloadN X140.here hx rfl (hb hby d1_16) rfl ?_
    show Steps p.tables e below (T140.setTop (mkF m 17 #[.val (.ref r0), .val (.long (2199023255551 : Int64)), .second, .val (.int (40 : Int32))] [(.int (40 : Int32))])) _
    refine XS.aloadN X140.here hx rfl (hb hby d1_17) rfl rfl ?_
    show Steps p.tables e below (T140.setTop (mkF m 18 #[.val (.ref r0), .val (.long (2199023255551 : Int64)), .second, .val (.int (40 : Int32))] [(.ref r0), (.int (40 : Int32))])) _
    refine st141 _ ?_
    show Steps p.tables e below (T141.setTop (mkF m 21 #[.val (.ref r0), .val (.long (2199023255551 : Int64)), .second, .val (.int (40 : Int32))] [(.int (1 : Int32)), (.int (40 : Int32))])) _
    refine XS.iadd X141.here hx rfl (hb hby d1_21) rfl ?_
    show Steps p.tables e below (T141.setTop (mkF m 22 #[.val (.ref r0), .val (.long (2199023255551 : Int64)), .second, .val (.int (40 : Int32))] [(.int (41 : Int32))])) _
    refine XS.istoreN X141.here hx rfl (hb hby d1_22) rfl (l' := #[.val (.ref r0), .val (.long (2199023255551 : Int64)), .second, .val (.int (41 : Int32))]) rfl ?_
    show Steps p.tables e below (T141.setTop (mkF m 23 #[.val (.ref r0), .val (.long (2199023255551 : Int64)), .second, .val (.int (41 : Int32))] [])) _
    refine XS.goto X141.here hx rfl (pc0 := 23) (pc' := 4) rfl (hb hby d1_23) (by decide) (by decide) ?_
    show Steps p.tables e below (T141.setTop (mkF m 4 #[.val (.ref r0), .val (.long (2199023255551 : Int64)), .second, .val (.int (41 : Int32))] [])) _
    refine XS.iloadN X141.here hx rfl (hb hby d1_4) rfl ?_
    show Steps p.tables e below (T141.setTop (mkF m 5 #[.val (.ref r0), .val (.long (2199023255551 : Int64)), .second, .val (.int (41 : Int32))] [(.int (41 : Int32))])) _
    refine XS.bipush X141.here hx rfl (hb hby d1_5) ?_
    show Steps p.tables e below (T141.setTop (mkF m 7 #[.val (.ref r0), .val (.long (2199023255551 : Int64)), .second, .val (.int (41 : Int32))] [(.int (64 : Int32)), (.int (41 : Int32))])) _
    refine XS.icmpNo X141.here hx rfl (hb hby d1_7) rfl (tlt (by decide : (41 : Int32) < (64 : Int32))).2.1 ?_
    show Steps p.tables e below (T141.setTop (mkF m 10 #[.val (.ref r0), .val (.long (2199023255551 : Int64)), .second, .val (.int (41 : Int32))] [])) _
    refine XS.lloadN X141.here hx rfl (hb hby d1_10) rfl ?_
    show Steps p.tables e below (T141.setTop (mkF m 11 #[.val (.ref r0), .val (.long (2199023255551 : Int64)), .second, .val (.int (41 : Int32))] [(.long (2199023255551 : Int64))])) _
    refine XS.lconst X141.here hx rfl (hb hby d1_11) ?_
    show Steps p.tables e below (T141.setTop (mkF m 12 #[.val (.ref r0), .val (.long (2199023255551 : Int64)), .second, .val (.int (41 : Int32))] [(.long (1 : Int64)), (.long (2199023255551 : Int64))])) _
    refine XS.iloadN X141.here hx rfl (hb hby d1_12) rfl ?_
    show Steps p.tables e below (T141.setTop (mkF m 13 #[.val (.ref r0), .val (.long (2199023255551 : Int64)), .second, .val (.int (41 : Int32))] [(.int (41 : Int32)), (.long (1 : Int64)), (.long (2199023255551 : Int64))])) _
    refine XS.lshl X141.here hx rfl (hb hby d1_13) rfl ?_
    show Steps p.tables e below (T141.setTop (mkF m 14 #[.val (.ref r0), .val (.long (2199023255551 : Int64)), .second, .val (.int (41 : Int32))] [(.long ((1 : Int64) <<< ((41 : Int32) &&& 0x3f).toInt64)), (.long (2199023255551 : Int64))])) _
    refine XS.lor X141.here hx rfl (hb hby d1_14) rfl ?_
    show Steps p.tables e below (T141.setTop (mkF m 15 #[.val (.ref r0), .val (.long (2199023255551 : Int64)), .second, .val (.int (41 : Int32))] [(.long ((2199023255551 : Int64) ||| ((1 : Int64) <<< ((41 : Int32) &&& 0x3f).toInt64)))])) _
    rw [show ((2199023255551 : Int64) ||| ((1 : Int64) <<< ((41 : Int32) &&& 0x3f).toInt64)) = (4398046511103 : Int64) from by decide +kernel]
    refine XS.lstoreN X141.here hx rfl (hb hby d1_15) rfl (l' := #[.val (.ref r0), .val (.long (4398046511103 : Int64)), .second, .val (.int (41 : Int32))]) rfl ?_
    show Steps p.tables e below (T141.setTop (mkF m 16 #[.val (.ref r0), .val (.long (4398046511103 : Int64)), .second, .val (.int (41 : Int32))] [])) _
    refine XS.iloadN X141.here hx rfl (hb hby d1_16) rfl ?_
    show Steps p.tables e below (T141.setTop (mkF m 17 #[.val (.ref r0), .val (.long (4398046511103 : Int64)), .second, .val (.int (41 : Int32))] [(.int (41 : Int32))])) _
    refine XS.aloadN X141.here hx rfl (hb hby d1_17) rfl rfl ?_
    show Steps p.tables e below (T141.setTop (mkF m 18 #[.val (.ref r0), .val (.long (4398046511103 : Int64)), .second, .val (.int (41 : Int32))] [(.ref r0), (.int (41 : Int32))])) _
    refine st142 _ ?_
    show Steps p.tables e below (T142.setTop (mkF m 21 #[.val (.ref r0), .val (.long (4398046511103 : Int64)), .second, .val (.int (41 : Int32))] [(.int (1 : Int32)), (.int (41 : Int32))])) _
    refine XS.iadd X142.here hx rfl (hb hby d1_21) rfl ?_
    show Steps p.tables e below (T142.setTop (mkF m 22 #[.val (.ref r0), .val (.long (4398046511103 : Int64)), .second, .val (.int (41 : Int32))] [(.int (42 : Int32))])) _
    refine XS.istoreN X142.here hx rfl (hb hby d1_22) rfl (l' := #[.val (.ref r0), .val (.long (4398046511103 : Int64)), .second, .val (.int (42 : Int32))]) rfl ?_
    show Steps p.tables e below (T142.setTop (mkF m 23 #[.val (.ref r0), .val (.long (4398046511103 : Int64)), .second, .val (.int (42 : Int32))] [])) _
    refine XS.goto X142.here hx rfl (pc0 := 23) (pc' := 4) rfl (hb hby d1_23) (by decide) (by decide) ?_
    show Steps p.tables e below (T142.setTop (mkF m 4 #[.val (.ref r0), .val (.long (4398046511103 : Int64)), .second, .val (.int (42 : Int32))] [])) _
    refine XS.iloadN X142.here hx rfl (hb hby d1_4) rfl ?_
    show Steps p.tables e below (T142.setTop (mkF m 5 #[.val (.ref r0), .val (.long (4398046511103 : Int64)), .second, .val (.int (42 : Int32))] [(.int (42 : Int32))])) _
    refine XS.bipush X142.here hx rfl (hb hby d1_5) ?_
    show Steps p.tables e below (T142.setTop (mkF m 7 #[.val (.ref r0), .val (.long (4398046511103 : Int64)), .second, .val (.int (42 : Int32))] [(.int (64 : Int32)), (.int (42 : Int32))])) _
    refine XS.icmpNo X142.here hx rfl (hb hby d1_7) rfl (tlt (by decide : (42 : Int32) < (64 : Int32))).2.1 ?_
    show Steps p.tables e below (T142.setTop (mkF m 10 #[.val (.ref r0), .val (.long (4398046511103 : Int64)), .second, .val (.int (42 : Int32))] [])) _
    refine XS.lloadN X142.here hx rfl (hb hby d1_10) rfl ?_
    show Steps p.tables e below (T142.setTop (mkF m 11 #[.val (.ref r0), .val (.long (4398046511103 : Int64)), .second, .val (.int (42 : Int32))] [(.long (4398046511103 : Int64))])) _
    refine XS.lconst X142.here hx rfl (hb hby d1_11) ?_
    show Steps p.tables e below (T142.setTop (mkF m 12 #[.val (.ref r0), .val (.long (4398046511103 : Int64)), .second, .val (.int (42 : Int32))] [(.long (1 : Int64)), (.long (4398046511103 : Int64))])) _
    refine XS.iloadN X142.here hx rfl (hb hby d1_12) rfl ?_
    show Steps p.tables e below (T142.setTop (mkF m 13 #[.val (.ref r0), .val (.long (4398046511103 : Int64)), .second, .val (.int (42 : Int32))] [(.int (42 : Int32)), (.long (1 : Int64)), (.long (4398046511103 : Int64))])) _
    refine XS.lshl X142.here hx rfl (hb hby d1_13) rfl ?_
    show Steps p.tables e below (T142.setTop (mkF m 14 #[.val (.ref r0), .val (.long (4398046511103 : Int64)), .second, .val (.int (42 : Int32))] [(.long ((1 : Int64) <<< ((42 : Int32) &&& 0x3f).toInt64)), (.long (4398046511103 : Int64))])) _
    refine XS.lor X142.here hx rfl (hb hby d1_14) rfl ?_
    show Steps p.tables e below (T142.setTop (mkF m 15 #[.val (.ref r0), .val (.long (4398046511103 : Int64)), .second, .val (.int (42 : Int32))] [(.long ((4398046511103 : Int64) ||| ((1 : Int64) <<< ((42 : Int32) &&& 0x3f).toInt64)))])) _
    rw [show ((4398046511103 : Int64) ||| ((1 : Int64) <<< ((42 : Int32) &&& 0x3f).toInt64)) = (8796093022207 : Int64) from by decide +kernel]
    refine XS.lstoreN X142.here hx rfl (hb hby d1_15) rfl (l' := #[.val (.ref r0), .val (.long (8796093022207 : Int64)), .second, .val (.int (42 : Int32))]) rfl ?_
    show Steps p.tables e below (T142.setTop (mkF m 16 #[.val (.ref r0), .val (.long (8796093022207 : Int64)), .second, .val (.int (42 : Int32))] [])) _
    refine XS.iloadN X142.here hx rfl (hb hby d1_16) rfl ?_
    show Steps p.tables e below (T142.setTop (mkF m 17 #[.val (.ref r0), .val (.long (8796093022207 : Int64)), .second, .val (.int (42 : Int32))] [(.int (42 : Int32))])) _
    refine XS.aloadN X142.here hx rfl (hb hby d1_17) rfl rfl ?_
    show Steps p.tables e below (T142.setTop (mkF m 18 #[.val (.ref r0), .val (.long (8796093022207 : Int64)), .second, .val (.int (42 : Int32))] [(.ref r0), (.int (42 : Int32))])) _
    refine st143 _ ?_
    show Steps p.tables e below (T143.setTop (mkF m 21 #[.val (.ref r0), .val (.long (8796093022207 : Int64)), .second, .val (.int (42 : Int32))] [(.int (1 : Int32)), (.int (42 : Int32))])) _
    refine XS.iadd X143.here hx rfl (hb hby d1_21) rfl ?_
    show Steps p.tables e below (T143.setTop (mkF m 22 #[.val (.ref r0), .val (.long (8796093022207 : Int64)), .second, .val (.int (42 : Int32))] [(.int (43 : Int32))])) _
    refine XS.istoreN X143.here hx rfl (hb hby d1_22) rfl (l' := #[.val (.ref r0), .val (.long (8796093022207 : Int64)), .second, .val (.int (43 : Int32))]) rfl ?_
    show Steps p.tables e below (T143.setTop (mkF m 23 #[.val (.ref r0), .val (.long (8796093022207 : Int64)), .second, .val (.int (43 : Int32))] [])) _
    refine XS.goto X143.here hx rfl (pc0 := 23) (pc' := 4) rfl (hb hby d1_23) (by decide) (by decide) ?_
    show Steps p.tables e below (T143.setTop (mkF m 4 #[.val (.ref r0), .val (.long (8796093022207 : Int64)), .second, .val (.int (43 : Int32))] [])) _
    refine XS.iloadN X143.here hx rfl (hb hby d1_4) rfl ?_
    show Steps p.tables e below (T143.setTop (mkF m 5 #[.val (.ref r0), .val (.long (8796093022207 : Int64)), .second, .val (.int (43 : Int32))] [(.int (43 : Int32))])) _
    refine XS.bipush X143.here hx rfl (hb hby d1_5) ?_
    show Steps p.tables e below (T143.setTop (mkF m 7 #[.val (.ref r0), .val (.long (8796093022207 : Int64)), .second, .val (.int (43 : Int32))] [(.int (64 : Int32)), (.int (43 : Int32))])) _
    refine XS.icmpNo X143.here hx rfl (hb hby d1_7) rfl (tlt (by decide : (43 : Int32) < (64 : Int32))).2.1 ?_
    show Steps p.tables e below (T143.setTop (mkF m 10 #[.val (.ref r0), .val (.long (8796093022207 : Int64)), .second, .val (.int (43 : Int32))] [])) _
    refine XS.lloadN X143.here hx rfl (hb hby d1_10) rfl ?_
    show Steps p.tables e below (T143.setTop (mkF m 11 #[.val (.ref r0), .val (.long (8796093022207 : Int64)), .second, .val (.int (43 : Int32))] [(.long (8796093022207 : Int64))])) _
    refine XS.lconst X143.here hx rfl (hb hby d1_11) ?_
    show Steps p.tables e below (T143.setTop (mkF m 12 #[.val (.ref r0), .val (.long (8796093022207 : Int64)), .second, .val (.int (43 : Int32))] [(.long (1 : Int64)), (.long (8796093022207 : Int64))])) _
    refine XS.iloadN X143.here hx rfl (hb hby d1_12) rfl ?_
    show Steps p.tables e below (T143.setTop (mkF m 13 #[.val (.ref r0), .val (.long (8796093022207 : Int64)), .second, .val (.int (43 : Int32))] [(.int (43 : Int32)), (.long (1 : Int64)), (.long (8796093022207 : Int64))])) _
    refine XS.lshl X143.here hx rfl (hb hby d1_13) rfl ?_
    show Steps p.tables e below (T143.setTop (mkF m 14 #[.val (.ref r0), .val (.long (8796093022207 : Int64)), .second, .val (.int (43 : Int32))] [(.long ((1 : Int64) <<< ((43 : Int32) &&& 0x3f).toInt64)), (.long (8796093022207 : Int64))])) _
    refine XS.lor X143.here hx rfl (hb hby d1_14) rfl ?_
    show Steps p.tables e below (T143.setTop (mkF m 15 #[.val (.ref r0), .val (.long (8796093022207 : Int64)), .second, .val (.int (43 : Int32))] [(.long ((8796093022207 : Int64) ||| ((1 : Int64) <<< ((43 : Int32) &&& 0x3f).toInt64)))])) _
    rw [show ((8796093022207 : Int64) ||| ((1 : Int64) <<< ((43 : Int32) &&& 0x3f).toInt64)) = (17592186044415 : Int64) from by decide +kernel]
    refine XS.lstoreN X143.here hx rfl (hb hby d1_15) rfl (l' := #[.val (.ref r0), .val (.long (17592186044415 : Int64)), .second, .val (.int (43 : Int32))]) rfl ?_
    show Steps p.tables e below (T143.setTop (mkF m 16 #[.val (.ref r0), .val (.long (17592186044415 : Int64)), .second, .val (.int (43 : Int32))] [])) _
    refine XS.iloadN X143.here hx rfl (hb hby d1_16) rfl ?_
    show Steps p.tables e below (T143.setTop (mkF m 17 #[.val (.ref r0), .val (.long (17592186044415 : Int64)), .second, .val (.int (43 : Int32))] [(.int (43 : Int32))])) _
    refine XS.aloadN X143.here hx rfl (hb hby d1_17) rfl rfl ?_
    show Steps p.tables e below (T143.setTop (mkF m 18 #[.val (.ref r0), .val (.long (17592186044415 : Int64)), .second, .val (.int (43 : Int32))] [(.ref r0), (.int (43 : Int32))])) _
    refine st144 _ ?_
    show Steps p.tables e below (T144.setTop (mkF m 21 #[.val (.ref r0), .val (.long (17592186044415 : Int64)), .second, .val (.int (43 : Int32))] [(.int (1 : Int32)), (.int (43 : Int32))])) _
    refine XS.iadd X144.here hx rfl (hb hby d1_21) rfl ?_
    show Steps p.tables e below (T144.setTop (mkF m 22 #[.val (.ref r0), .val (.long (17592186044415 : Int64)), .second, .val (.int (43 : Int32))] [(.int (44 : Int32))])) _
    refine XS.istoreN X144.here hx rfl (hb hby d1_22) rfl (l' := #[.val (.ref r0), .val (.long (17592186044415 : Int64)), .second, .val (.int (44 : Int32))]) rfl ?_
    show Steps p.tables e below (T144.setTop (mkF m 23 #[.val (.ref r0), .val (.long (17592186044415 : Int64)), .second, .val (.int (44 : Int32))] [])) _
    refine XS.goto X144.here hx rfl (pc0 := 23) (pc' := 4) rfl (hb hby d1_23) (by decide) (by decide) ?_
    show Steps p.tables e below (T144.setTop (mkF m 4 #[.val (.ref r0), .val (.long (17592186044415 : Int64)), .second, .val (.int (44 : Int32))] [])) _
    refine XS.iloadN X144.here hx rfl (hb hby d1_4) rfl ?_
    show Steps p.tables e below (T144.setTop (mkF m 5 #[.val (.ref r0), .val (.long (17592186044415 : Int64)), .second, .val (.int (44 : Int32))] [(.int (44 : Int32))])) _
    refine XS.bipush X144.here hx rfl (hb hby d1_5) ?_
    show Steps p.tables e below (T144.setTop (mkF m 7 #[.val (.ref r0), .val (.long (17592186044415 : Int64)), .second, .val (.int (44 : Int32))] [(.int (64 : Int32)), (.int (44 : Int32))])) _
    refine XS.icmpNo X144.here hx rfl (hb hby d1_7) rfl (tlt (by decide : (44 : Int32) < (64 : Int32))).2.1 ?_
    show Steps p.tables e below (T144.setTop (mkF m 10 #[.val (.ref r0), .val (.long (17592186044415 : Int64)), .second, .val (.int (44 : Int32))] [])) _
    refine XS.lloadN X144.here hx rfl (hb hby d1_10) rfl ?_
    show Steps p.tables e below (T144.setTop (mkF m 11 #[.val (.ref r0), .val (.long (17592186044415 : Int64)), .second, .val (.int (44 : Int32))] [(.long (17592186044415 : Int64))])) _
    refine XS.lconst X144.here hx rfl (hb hby d1_11) ?_
    show Steps p.tables e below (T144.setTop (mkF m 12 #[.val (.ref r0), .val (.long (17592186044415 : Int64)), .second, .val (.int (44 : Int32))] [(.long (1 : Int64)), (.long (17592186044415 : Int64))])) _
    refine XS.iloadN X144.here hx rfl (hb hby d1_12) rfl ?_
    show Steps p.tables e below (T144.setTop (mkF m 13 #[.val (.ref r0), .val (.long (17592186044415 : Int64)), .second, .val (.int (44 : Int32))] [(.int (44 : Int32)), (.long (1 : Int64)), (.long (17592186044415 : Int64))])) _
    refine XS.lshl X144.here hx rfl (hb hby d1_13) rfl ?_
    show Steps p.tables e below (T144.setTop (mkF m 14 #[.val (.ref r0), .val (.long (17592186044415 : Int64)), .second, .val (.int (44 : Int32))] [(.long ((1 : Int64) <<< ((44 : Int32) &&& 0x3f).toInt64)), (.long (17592186044415 : Int64))])) _
    refine XS.lor X144.here hx rfl (hb hby d1_14) rfl ?_
    show Steps p.tables e below (T144.setTop (mkF m 15 #[.val (.ref r0), .val (.long (17592186044415 : Int64)), .second, .val (.int (44 : Int32))] [(.long ((17592186044415 : Int64) ||| ((1 : Int64) <<< ((44 : Int32) &&& 0x3f).toInt64)))])) _
    rw [show ((17592186044415 : Int64) ||| ((1 : Int64) <<< ((44 : Int32) &&& 0x3f).toInt64)) = (35184372088831 : Int64) from by decide +kernel]
    refine XS.lstoreN X144.here hx rfl (hb hby d1_15) rfl (l' := #[.val (.ref r0), .val (.long (35184372088831 : Int64)), .second, .val (.int (44 : Int32))]) rfl ?_
    show Steps p.tables e below (T144.setTop (mkF m 16 #[.val (.ref r0), .val (.long (35184372088831 : Int64)), .second, .val (.int (44 : Int32))] [])) _
    refine XS.iloadN X144.here hx rfl (hb hby d1_16) rfl ?_
    show Steps p.tables e below (T144.setTop (mkF m 17 #[.val (.ref r0), .val (.long (35184372088831 : Int64)), .second, .val (.int (44 : Int32))] [(.int (44 : Int32))])) _
    refine XS.aloadN X144.here hx rfl (hb hby d1_17) rfl rfl ?_
    show Steps p.tables e below (T144.setTop (mkF m 18 #[.val (.ref r0), .val (.long (35184372088831 : Int64)), .second, .val (.int (44 : Int32))] [(.ref r0), (.int (44 : Int32))])) _
    refine st145 _ ?_
    show Steps p.tables e below (T145.setTop (mkF m 21 #[.val (.ref r0), .val (.long (35184372088831 : Int64)), .second, .val (.int (44 : Int32))] [(.int (1 : Int32)), (.int (44 : Int32))])) _
    refine XS.iadd X145.here hx rfl (hb hby d1_21) rfl ?_
    show Steps p.tables e below (T145.setTop (mkF m 22 #[.val (.ref r0), .val (.long (35184372088831 : Int64)), .second, .val (.int (44 : Int32))] [(.int (45 : Int32))])) _
    refine XS.istoreN X145.here hx rfl (hb hby d1_22) rfl (l' := #[.val (.ref r0), .val (.long (35184372088831 : Int64)), .second, .val (.int (45 : Int32))]) rfl ?_
    show Steps p.tables e below (T145.setTop (mkF m 23 #[.val (.ref r0), .val (.long (35184372088831 : Int64)), .second, .val (.int (45 : Int32))] [])) _
    refine XS.goto X145.here hx rfl (pc0 := 23) (pc' := 4) rfl (hb hby d1_23) (by decide) (by decide) ?_
    show Steps p.tables e below (T145.setTop (mkF m 4 #[.val (.ref r0), .val (.long (35184372088831 : Int64)), .second, .val (.int (45 : Int32))] [])) _
    refine XS.iloadN X145.here hx rfl (hb hby d1_4) rfl ?_
    show Steps p.tables e below (T145.setTop (mkF m 5 #[.val (.ref r0), .val (.long (35184372088831 : Int64)), .second, .val (.int (45 : Int32))] [(.int (45 : Int32))])) _
    refine XS.bipush X145.here hx rfl (hb hby d1_5) ?_
    show Steps p.tables e below (T145.setTop (mkF m 7 #[.val (.ref r0), .val (.long (35184372088831 : Int64)), .second, .val (.int (45 : Int32))] [(.int (64 : Int32)), (.int (45 : Int32))])) _
    refine XS.icmpNo X145.here hx rfl (hb hby d1_7) rfl (tlt (by decide : (45 : Int32) < (64 : Int32))).2.1 ?_
    show Steps p.tables e below (T145.setTop (mkF m 10 #[.val (.ref r0), .val (.long (35184372088831 : Int64)), .second, .val (.int (45 : Int32))] [])) _
    refine XS.lloadN X145.here hx rfl (hb hby d1_10) rfl ?_
    show Steps p.tables e below (T145.setTop (mkF m 11 #[.val (.ref r0), .val (.long (35184372088831 : Int64)), .second, .val (.int (45 : Int32))] [(.long (35184372088831 : Int64))])) _
    refine XS.lconst X145.here hx rfl (hb hby d1_11) ?_
    show Steps p.tables e below (T145.setTop (mkF m 12 #[.val (.ref r0), .val (.long (35184372088831 : Int64)), .second, .val (.int (45 : Int32))] [(.long (1 : Int64)), (.long (35184372088831 : Int64))])) _
    refine XS.iloadN X145.here hx rfl (hb hby d1_12) rfl ?_
    show Steps p.tables e below (T145.setTop (mkF m 13 #[.val (.ref r0), .val (.long (35184372088831 : Int64)), .second, .val (.int (45 : Int32))] [(.int (45 : Int32)), (.long (1 : Int64)), (.long (35184372088831 : Int64))])) _
    refine XS.lshl X145.here hx rfl (hb hby d1_13) rfl ?_
    show Steps p.tables e below (T145.setTop (mkF m 14 #[.val (.ref r0), .val (.long (35184372088831 : Int64)), .second, .val (.int (45 : Int32))] [(.long ((1 : Int64) <<< ((45 : Int32) &&& 0x3f).toInt64)), (.long (35184372088831 : Int64))])) _
    refine XS.lor X145.here hx rfl (hb hby d1_14) rfl ?_
    show Steps p.tables e below (T145.setTop (mkF m 15 #[.val (.ref r0), .val (.long (35184372088831 : Int64)), .second, .val (.int (45 : Int32))] [(.long ((35184372088831 : Int64) ||| ((1 : Int64) <<< ((45 : Int32) &&& 0x3f).toInt64)))])) _
    rw [show ((35184372088831 : Int64) ||| ((1 : Int64) <<< ((45 : Int32) &&& 0x3f).toInt64)) = (70368744177663 : Int64) from by decide +kernel]
    refine XS.lstoreN X145.here hx rfl (hb hby d1_15) rfl (l' := #[.val (.ref r0), .val (.long (70368744177663 : Int64)), .second, .val (.int (45 : Int32))]) rfl ?_
    show Steps p.tables e below (T145.setTop (mkF m 16 #[.val (.ref r0), .val (.long (70368744177663 : Int64)), .second, .val (.int (45 : Int32))] [])) _
    refine XS.iloadN X145.here hx rfl (hb hby d1_16) rfl ?_
    show Steps p.tables e below (T145.setTop (mkF m 17 #[.val (.ref r0), .val (.long (70368744177663 : Int64)), .second, .val (.int (45 : Int32))] [(.int (45 : Int32))])) _
    refine XS.aloadN X145.here hx rfl (hb hby d1_17) rfl rfl ?_
    show Steps p.tables e below (T145.setTop (mkF m 18 #[.val (.ref r0), .val (.long (70368744177663 : Int64)), .second, .val (.int (45 : Int32))] [(.ref r0), (.int (45 : Int32))])) _
    refine st146 _ ?_
    show Steps p.tables e below (T146.setTop (mkF m 21 #[.val (.ref r0), .val (.long (70368744177663 : Int64)), .second, .val (.int (45 : Int32))] [(.int (1 : Int32)), (.int (45 : Int32))])) _
    refine XS.iadd X146.here hx rfl (hb hby d1_21) rfl ?_
    show Steps p.tables e below (T146.setTop (mkF m 22 #[.val (.ref r0), .val (.long (70368744177663 : Int64)), .second, .val (.int (45 : Int32))] [(.int (46 : Int32))])) _
    refine XS.istoreN X146.here hx rfl (hb hby d1_22) rfl (l' := #[.val (.ref r0), .val (.long (70368744177663 : Int64)), .second, .val (.int (46 : Int32))]) rfl ?_
    show Steps p.tables e below (T146.setTop (mkF m 23 #[.val (.ref r0), .val (.long (70368744177663 : Int64)), .second, .val (.int (46 : Int32))] [])) _
    refine XS.goto X146.here hx rfl (pc0 := 23) (pc' := 4) rfl (hb hby d1_23) (by decide) (by decide) ?_
    show Steps p.tables e below (T146.setTop (mkF m 4 #[.val (.ref r0), .val (.long (70368744177663 : Int64)), .second, .val (.int (46 : Int32))] [])) _
    refine XS.iloadN X146.here hx rfl (hb hby d1_4) rfl ?_
    show Steps p.tables e below (T146.setTop (mkF m 5 #[.val (.ref r0), .val (.long (70368744177663 : Int64)), .second, .val (.int (46 : Int32))] [(.int (46 : Int32))])) _
    refine XS.bipush X146.here hx rfl (hb hby d1_5) ?_
    show Steps p.tables e below (T146.setTop (mkF m 7 #[.val (.ref r0), .val (.long (70368744177663 : Int64)), .second, .val (.int (46 : Int32))] [(.int (64 : Int32)), (.int (46 : Int32))])) _
    refine XS.icmpNo X146.here hx rfl (hb hby d1_7) rfl (tlt (by decide : (46 : Int32) < (64 : Int32))).2.1 ?_
    show Steps p.tables e below (T146.setTop (mkF m 10 #[.val (.ref r0), .val (.long (70368744177663 : Int64)), .second, .val (.int (46 : Int32))] [])) _
    refine XS.lloadN X146.here hx rfl (hb hby d1_10) rfl ?_
    show Steps p.tables e below (T146.setTop (mkF m 11 #[.val (.ref r0), .val (.long (70368744177663 : Int64)), .second, .val (.int (46 : Int32))] [(.long (70368744177663 : Int64))])) _
    refine XS.lconst X146.here hx rfl (hb hby d1_11) ?_
    show Steps p.tables e below (T146.setTop (mkF m 12 #[.val (.ref r0), .val (.long (70368744177663 : Int64)), .second, .val (.int (46 : Int32))] [(.long (1 : Int64)), (.long (70368744177663 : Int64))])) _
    refine XS.iloadN X146.here hx rfl (hb hby d1_12) rfl ?_
    show Steps p.tables e below (T146.setTop (mkF m 13 #[.val (.ref r0), .val (.long (70368744177663 : Int64)), .second, .val (.int (46 : Int32))] [(.int (46 : Int32)), (.long (1 : Int64)), (.long (70368744177663 : Int64))])) _
    refine XS.lshl X146.here hx rfl (hb hby d1_13) rfl ?_
    show Steps p.tables e below (T146.setTop (mkF m 14 #[.val (.ref r0), .val (.long (70368744177663 : Int64)), .second, .val (.int (46 : Int32))] [(.long ((1 : Int64) <<< ((46 : Int32) &&& 0x3f).toInt64)), (.long (70368744177663 : Int64))])) _
    refine XS.lor X146.here hx rfl (hb hby d1_14) rfl ?_
    show Steps p.tables e below (T146.setTop (mkF m 15 #[.val (.ref r0), .val (.long (70368744177663 : Int64)), .second, .val (.int (46 : Int32))] [(.long ((70368744177663 : Int64) ||| ((1 : Int64) <<< ((46 : Int32) &&& 0x3f).toInt64)))])) _
    rw [show ((70368744177663 : Int64) ||| ((1 : Int64) <<< ((46 : Int32) &&& 0x3f).toInt64)) = (140737488355327 : Int64) from by decide +kernel]
    refine XS.lstoreN X146.here hx rfl (hb hby d1_15) rfl (l' := #[.val (.ref r0), .val (.long (140737488355327 : Int64)), .second, .val (.int (46 : Int32))]) rfl ?_
    show Steps p.tables e below (T146.setTop (mkF m 16 #[.val (.ref r0), .val (.long (140737488355327 : Int64)), .second, .val (.int (46 : Int32))] [])) _
    refine XS.iloadN X146.here hx rfl (hb hby d1_16) rfl ?_
    show Steps p.tables e below (T146.setTop (mkF m 17 #[.val (.ref r0), .val (.long (140737488355327 : Int64)), .second, .val (.int (46 : Int32))] [(.int (46 : Int32))])) _
    refine XS.aloadN X146.here hx rfl (hb hby d1_17) rfl rfl ?_
    show Steps p.tables e below (T146.setTop (mkF m 18 #[.val (.ref r0), .val (.long (140737488355327 : Int64)), .second, .val (.int (46 : Int32))] [(.ref r0), (.int (46 : Int32))])) _
    refine st147 _ ?_
    show Steps p.tables e below (T147.setTop (mkF m 21 #[.val (.ref r0), .val (.long (140737488355327 : Int64)), .second, .val (.int (46 : Int32))] [(.int (1 : Int32)), (.int (46 : Int32))])) _
    refine XS.iadd X147.here hx rfl (hb hby d1_21) rfl ?_
    show Steps p.tables e below (T147.setTop (mkF m 22 #[.val (.ref r0), .val (.long (140737488355327 : Int64)), .second, .val (.int (46 : Int32))] [(.int (47 : Int32))])) _
    refine XS.istoreN X147.here hx rfl (hb hby d1_22) rfl (l' := #[.val (.ref r0), .val (.long (140737488355327 : Int64)), .second, .val (.int (47 : Int32))]) rfl ?_
    show Steps p.tables e below (T147.setTop (mkF m 23 #[.val (.ref r0), .val (.long (140737488355327 : Int64)), .second, .val (.int (47 : Int32))] [])) _
    refine XS.goto X147.here hx rfl (pc0 := 23) (pc' := 4) rfl (hb hby d1_23) (by decide) (by decide) ?_
    show Steps p.tables e below (T147.setTop (mkF m 4 #[.val (.ref r0), .val (.long (140737488355327 : Int64)), .second, .val (.int (47 : Int32))] [])) _
    refine XS.iloadN X147.here hx rfl (hb hby d1_4) rfl ?_
    show Steps p.tables e below (T147.setTop (mkF m 5 #[.val (.ref r0), .val (.long (140737488355327 : Int64)), .second, .val (.int (47 : Int32))] [(.int (47 : Int32))])) _
    refine XS.bipush X147.here hx rfl (hb hby d1_5) ?_
    show Steps p.tables e below (T147.setTop (mkF m 7 #[.val (.ref r0), .val (.long (140737488355327 : Int64)), .second, .val (.int (47 : Int32))] [(.int (64 : Int32)), (.int (47 : Int32))])) _
    refine XS.icmpNo X147.here hx rfl (hb hby d1_7) rfl (tlt (by decide : (47 : Int32) < (64 : Int32))).2.1 ?_
    show Steps p.tables e below (T147.setTop (mkF m 10 #[.val (.ref r0), .val (.long (140737488355327 : Int64)), .second, .val (.int (47 : Int32))] [])) _
    refine XS.lloadN X147.here hx rfl (hb hby d1_10) rfl ?_
    show Steps p.tables e below (T147.setTop (mkF m 11 #[.val (.ref r0), .val (.long (140737488355327 : Int64)), .second, .val (.int (47 : Int32))] [(.long (140737488355327 : Int64))])) _
    refine XS.lconst X147.here hx rfl (hb hby d1_11) ?_
    show Steps p.tables e below (T147.setTop (mkF m 12 #[.val (.ref r0), .val (.long (140737488355327 : Int64)), .second, .val (.int (47 : Int32))] [(.long (1 : Int64)), (.long (140737488355327 : Int64))])) _
    refine XS.iloadN X147.here hx rfl (hb hby d1_12) rfl ?_
    show Steps p.tables e below (T147.setTop (mkF m 13 #[.val (.ref r0), .val (.long (140737488355327 : Int64)), .second, .val (.int (47 : Int32))] [(.int (47 : Int32)), (.long (1 : Int64)), (.long (140737488355327 : Int64))])) _
    refine XS.lshl X147.here hx rfl (hb hby d1_13) rfl ?_
    show Steps p.tables e below (T147.setTop (mkF m 14 #[.val (.ref r0), .val (.long (140737488355327 : Int64)), .second, .val (.int (47 : Int32))] [(.long ((1 : Int64) <<< ((47 : Int32) &&& 0x3f).toInt64)), (.long (140737488355327 : Int64))])) _
    refine XS.lor X147.here hx rfl (hb hby d1_14) rfl ?_
    show Steps p.tables e below (T147.setTop (mkF m 15 #[.val (.ref r0), .val (.long (140737488355327 : Int64)), .second, .val (.int (47 : Int32))] [(.long ((140737488355327 : Int64) ||| ((1 : Int64) <<< ((47 : Int32) &&& 0x3f).toInt64)))])) _
    rw [show ((140737488355327 : Int64) ||| ((1 : Int64) <<< ((47 : Int32) &&& 0x3f).toInt64)) = (281474976710655 : Int64) from by decide +kernel]
    refine XS.lstoreN X147.here hx rfl (hb hby d1_15) rfl (l' := #[.val (.ref r0), .val (.long (281474976710655 : Int64)), .second, .val (.int (47 : Int32))]) rfl ?_
    show Steps p.tables e below (T147.setTop (mkF m 16 #[.val (.ref r0), .val (.long (281474976710655 : Int64)), .second, .val (.int (47 : Int32))] [])) _
    refine XS.iloadN X147.here hx rfl (hb hby d1_16) rfl ?_
    show Steps p.tables e below (T147.setTop (mkF m 17 #[.val (.ref r0), .val (.long (281474976710655 : Int64)), .second, .val (.int (47 : Int32))] [(.int (47 : Int32))])) _
    refine XS.aloadN X147.here hx rfl (hb hby d1_17) rfl rfl ?_
    show Steps p.tables e below (T147.setTop (mkF m 18 #[.val (.ref r0), .val (.long (281474976710655 : Int64)), .second, .val (.int (47 : Int32))] [(.ref r0), (.int (47 : Int32))])) _
    refine st148 _ ?_
    show Steps p.tables e below (T148.setTop (mkF m 21 #[.val (.ref r0), .val (.long (281474976710655 : Int64)), .second, .val (.int (47 : Int32))] [(.int (1 : Int32)), (.int (47 : Int32))])) _
    refine XS.iadd X148.here hx rfl (hb hby d1_21) rfl ?_
    show Steps p.tables e below (T148.setTop (mkF m 22 #[.val (.ref r0), .val (.long (281474976710655 : Int64)), .second, .val (.int (47 : Int32))] [(.int (48 : Int32))])) _
    refine XS.istoreN X148.here hx rfl (hb hby d1_22) rfl (l' := #[.val (.ref r0), .val (.long (281474976710655 : Int64)), .second, .val (.int (48 : Int32))]) rfl ?_
    show Steps p.tables e below (T148.setTop (mkF m 23 #[.val (.ref r0), .val (.long (281474976710655 : Int64)), .second, .val (.int (48 : Int32))] [])) _
    refine XS.goto X148.here hx rfl (pc0 := 23) (pc' := 4) rfl (hb hby d1_23) (by decide) (by decide) ?_
    show Steps p.tables e below (T148.setTop (mkF m 4 #[.val (.ref r0), .val (.long (281474976710655 : Int64)), .second, .val (.int (48 : Int32))] [])) _
    refine XS.iloadN X148.here hx rfl (hb hby d1_4) rfl ?_
    show Steps p.tables e below (T148.setTop (mkF m 5 #[.val (.ref r0), .val (.long (281474976710655 : Int64)), .second, .val (.int (48 : Int32))] [(.int (48 : Int32))])) _
    refine XS.bipush X148.here hx rfl (hb hby d1_5) ?_
    show Steps p.tables e below (T148.setTop (mkF m 7 #[.val (.ref r0), .val (.long (281474976710655 : Int64)), .second, .val (.int (48 : Int32))] [(.int (64 : Int32)), (.int (48 : Int32))])) _
    refine XS.icmpNo X148.here hx rfl (hb hby d1_7) rfl (tlt (by decide : (48 : Int32) < (64 : Int32))).2.1 ?_
    show Steps p.tables e below (T148.setTop (mkF m 10 #[.val (.ref r0), .val (.long (281474976710655 : Int64)), .second, .val (.int (48 : Int32))] [])) _
    refine XS.lloadN X148.here hx rfl (hb hby d1_10) rfl ?_
    show Steps p.tables e below (T148.setTop (mkF m 11 #[.val (.ref r0), .val (.long (281474976710655 : Int64)), .second, .val (.int (48 : Int32))] [(.long (281474976710655 : Int64))])) _
    refine XS.lconst X148.here hx rfl (hb hby d1_11) ?_
    show Steps p.tables e below (T148.setTop (mkF m 12 #[.val (.ref r0), .val (.long (281474976710655 : Int64)), .second, .val (.int (48 : Int32))] [(.long (1 : Int64)), (.long (281474976710655 : Int64))])) _
    refine XS.iloadN X148.here hx rfl (hb hby d1_12) rfl ?_
    show Steps p.tables e below (T148.setTop (mkF m 13 #[.val (.ref r0), .val (.long (281474976710655 : Int64)), .second, .val (.int (48 : Int32))] [(.int (48 : Int32)), (.long (1 : Int64)), (.long (281474976710655 : Int64))])) _
    refine XS.lshl X148.here hx rfl (hb hby d1_13) rfl ?_
    show Steps p.tables e below (T148.setTop (mkF m 14 #[.val (.ref r0), .val (.long (281474976710655 : Int64)), .second, .val (.int (48 : Int32))] [(.long ((1 : Int64) <<< ((48 : Int32) &&& 0x3f).toInt64)), (.long (281474976710655 : Int64))])) _
    refine XS.lor X148.here hx rfl (hb hby d1_14) rfl ?_
    show Steps p.tables e below (T148.setTop (mkF m 15 #[.val (.ref r0), .val (.long (281474976710655 : Int64)), .second, .val (.int (48 : Int32))] [(.long ((281474976710655 : Int64) ||| ((1 : Int64) <<< ((48 : Int32) &&& 0x3f).toInt64)))])) _
    rw [show ((281474976710655 : Int64) ||| ((1 : Int64) <<< ((48 : Int32) &&& 0x3f).toInt64)) = (562949953421311 : Int64) from by decide +kernel]
    refine XS.lstoreN X148.here hx rfl (hb hby d1_15) rfl (l' := #[.val (.ref r0), .val (.long (562949953421311 : Int64)), .second, .val (.int (48 : Int32))]) rfl ?_
    show Steps p.tables e below (T148.setTop (mkF m 16 #[.val (.ref r0), .val (.long (562949953421311 : Int64)), .second, .val (.int (48 : Int32))] [])) _
    refine XS.iloadN X148.here hx rfl (hb hby d1_16) rfl ?_
    show Steps p.tables e below (T148.setTop (mkF m 17 #[.val (.ref r0), .val (.long (562949953421311 : Int64)), .second, .val (.int (48 : Int32))] [(.int (48 : Int32))])) _
    refine XS.aloadN X148.here hx rfl (hb hby d1_17) rfl rfl ?_
    show Steps p.tables e below (T148.setTop (mkF m 18 #[.val (.ref r0), .val (.long (562949953421311 : Int64)), .second, .val (.int (48 : Int32))] [(.ref r0), (.int (48 : Int32))])) _
    refine st149 _ ?_
    show Steps p.tables e below (T149.setTop (mkF m 21 #[.val (.ref r0), .val (.long (562949953421311 : Int64)), .second, .val (.int (48 : Int32))] [(.int (1 : Int32)), (.int (48 : Int32))])) _
    refine XS.iadd X149.here hx rfl (hb hby d1_21) rfl ?_
    show Steps p.tables e below (T149.setTop (mkF m 22 #[.val (.ref r0), .val (.long (562949953421311 : Int64)), .second, .val (.int (48 : Int32))] [(.int (49 : Int32))])) _
    refine XS.istoreN X149.here hx rfl (hb hby d1_22) rfl (l' := #[.val (.ref r0), .val (.long (562949953421311 : Int64)), .second, .val (.int (49 : Int32))]) rfl ?_
    show Steps p.tables e below (T149.setTop (mkF m 23 #[.val (.ref r0), .val (.long (562949953421311 : Int64)), .second, .val (.int (49 : Int32))] [])) _
    refine XS.goto X149.here hx rfl (pc0 := 23) (pc' := 4) rfl (hb hby d1_23) (by decide) (by decide) ?_
    show Steps p.tables e below (T149.setTop (mkF m 4 #[.val (.ref r0), .val (.long (562949953421311 : Int64)), .second, .val (.int (49 : Int32))] [])) _
    refine XS.iloadN X149.here hx rfl (hb hby d1_4) rfl ?_
    show Steps p.tables e below (T149.setTop (mkF m 5 #[.val (.ref r0), .val (.long (562949953421311 : Int64)), .second, .val (.int (49 : Int32))] [(.int (49 : Int32))])) _
    refine XS.bipush X149.here hx rfl (hb hby d1_5) ?_
    show Steps p.tables e below (T149.setTop (mkF m 7 #[.val (.ref r0), .val (.long (562949953421311 : Int64)), .second, .val (.int (49 : Int32))] [(.int (64 : Int32)), (.int (49 : Int32))])) _
    refine XS.icmpNo X149.here hx rfl (hb hby d1_7) rfl (tlt (by decide : (49 : Int32) < (64 : Int32))).2.1 ?_
    show Steps p.tables e below (T149.setTop (mkF m 10 #[.val (.ref r0), .val (.long (562949953421311 : Int64)), .second, .val (.int (49 : Int32))] [])) _
    refine XS.lloadN X149.here hx rfl (hb hby d1_10) rfl ?_
    show Steps p.tables e below (T149.setTop (mkF m 11 #[.val (.ref r0), .val (.long (562949953421311 : Int64)), .second, .val (.int (49 : Int32))] [(.long (562949953421311 : Int64))])) _
    refine XS.lconst X149.here hx rfl (hb hby d1_11) ?_
    show Steps p.tables e below (T149.setTop (mkF m 12 #[.val (.ref r0), .val (.long (562949953421311 : Int64)), .second, .val (.int (49 : Int32))] [(.long (1 : Int64)), (.long (562949953421311 : Int64))])) _
    refine XS.iloadN X149.here hx rfl (hb hby d1_12) rfl ?_
    show Steps p.tables e below (T149.setTop (mkF m 13 #[.val (.ref r0), .val (.long (562949953421311 : Int64)), .second, .val (.int (49 : Int32))] [(.int (49 : Int32)), (.long (1 : Int64)), (.long (562949953421311 : Int64))])) _
    refine XS.lshl X149.here hx rfl (hb hby d1_13) rfl ?_
    show Steps p.tables e below (T149.setTop (mkF m 14 #[.val (.ref r0), .val (.long (562949953421311 : Int64)), .second, .val (.int (49 : Int32))] [(.long ((1 : Int64) <<< ((49 : Int32) &&& 0x3f).toInt64)), (.long (562949953421311 : Int64))])) _
    refine XS.lor X149.here hx rfl (hb hby d1_14) rfl ?_
    show Steps p.tables e below (T149.setTop (mkF m 15 #[.val (.ref r0), .val (.long (562949953421311 : Int64)), .second, .val (.int (49 : Int32))] [(.long ((562949953421311 : Int64) ||| ((1 : Int64) <<< ((49 : Int32) &&& 0x3f).toInt64)))])) _
    rw [show ((562949953421311 : Int64) ||| ((1 : Int64) <<< ((49 : Int32) &&& 0x3f).toInt64)) = (1125899906842623 : Int64) from by decide +kernel]
    refine XS.lstoreN X149.here hx rfl (hb hby d1_15) rfl (l' := #[.val (.ref r0), .val (.long (1125899906842623 : Int64)), .second, .val (.int (49 : Int32))]) rfl ?_
    show Steps p.tables e below (T149.setTop (mkF m 16 #[.val (.ref r0), .val (.long (1125899906842623 : Int64)), .second, .val (.int (49 : Int32))] [])) _
    refine XS.iloadN X149.here hx rfl (hb hby d1_16) rfl ?_
    show Steps p.tables e below (T149.setTop (mkF m 17 #[.val (.ref r0), .val (.long (1125899906842623 : Int64)), .second, .val (.int (49 : Int32))] [(.int (49 : Int32))])) _
    refine XS.aloadN X149.here hx rfl (hb hby d1_17) rfl rfl ?_
    show Steps p.tables e below (T149.setTop (mkF m 18 #[.val (.ref r0), .val (.long (1125899906842623 : Int64)), .second, .val (.int (49 : Int32))] [(.ref r0), (.int (49 : Int32))])) _
    refine st150 _ ?_
    show Steps p.tables e below (T150.setTop (mkF m 21 #[.val (.ref r0), .val (.long (1125899906842623 : Int64)), .second, .val (.int (49 : Int32))] [(.int (1 : Int32)), (.int (49 : Int32))])) _
    refine XS.iadd X150.here hx rfl (hb hby d1_21) rfl ?_
    show Steps p.tables e below (T150.setTop (mkF m 22 #[.val (.ref r0), .val (.long (1125899906842623 : Int64)), .second, .val (.int (49 : Int32))] [(.int (50 : Int32))])) _
    refine XS.istoreN X150.here hx rfl (hb hby d1_22) rfl (l' := #[.val (.ref r0), .val (.long (1125899906842623 : Int64)), .second, .val (.int (50 : Int32))]) rfl ?_
    show Steps p.tables e below (T150.setTop (mkF m 23 #[.val (.ref r0), .val (.long (1125899906842623 : Int64)), .second, .val (.int (50 : Int32))] [])) _
    refine XS.goto X150.here hx rfl (pc0 := 23) (pc' := 4) rfl (hb hby d1_23) (by decide) (by decide) ?_
    show Steps p.tables e below (T150.setTop (mkF m 4 #[.val (.ref r0), .val (.long (1125899906842623 : Int64)), .second, .val (.int (50 : Int32))] [])) _
    refine XS.iloadN X150.here hx rfl (hb hby d1_4) rfl ?_
    show Steps p.tables e below (T150.setTop (mkF m 5 #[.val (.ref r0), .val (.long (1125899906842623 : Int64)), .second, .val (.int (50 : Int32))] [(.int (50 : Int32))])) _
    refine XS.bipush X150.here hx rfl (hb hby d1_5) ?_
    show Steps p.tables e below (T150.setTop (mkF m 7 #[.val (.ref r0), .val (.long (1125899906842623 : Int64)), .second, .val (.int (50 : Int32))] [(.int (64 : Int32)), (.int (50 : Int32))])) _
    refine XS.icmpNo X150.here hx rfl (hb hby d1_7) rfl (tlt (by decide : (50 : Int32) < (64 : Int32))).2.1 ?_
    show Steps p.tables e below (T150.setTop (mkF m 10 #[.val (.ref r0), .val (.long (1125899906842623 : Int64)), .second, .val (.int (50 : Int32))] [])) _
    refine XS.lloadN X150.here hx rfl (hb hby d1_10) rfl ?_
    show Steps p.tables e below (T150.setTop (mkF m 11 #[.val (.ref r0), .val (.long (1125899906842623 : Int64)), .second, .val (.int (50 : Int32))] [(.long (1125899906842623 : Int64))])) _
    refine XS.lconst X150.here hx rfl (hb hby d1_11) ?_
    show Steps p.tables e below (T150.setTop (mkF m 12 #[.val (.ref r0), .val (.long (1125899906842623 : Int64)), .second, .val (.int (50 : Int32))] [(.long (1 : Int64)), (.long (1125899906842623 : Int64))])) _
    refine XS.iloadN X150.here hx rfl (hb hby d1_12) rfl ?_
    show Steps p.tables e below (T150.setTop (mkF m 13 #[.val (.ref r0), .val (.long (1125899906842623 : Int64)), .second, .val (.int (50 : Int32))] [(.int (50 : Int32)), (.long (1 : Int64)), (.long (1125899906842623 : Int64))])) _
    refine XS.lshl X150.here hx rfl (hb hby d1_13) rfl ?_
    show Steps p.tables e below (T150.setTop (mkF m 14 #[.val (.ref r0), .val (.long (1125899906842623 : Int64)), .second, .val (.int (50 : Int32))] [(.long ((1 : Int64) <<< ((50 : Int32) &&& 0x3f).toInt64)), (.long (1125899906842623 : Int64))])) _
    refine XS.lor X150.here hx rfl (hb hby d1_14) rfl ?_
    show Steps p.tables e below (T150.setTop (mkF m 15 #[.val (.ref r0), .val (.long (1125899906842623 : Int64)), .second, .val (.int (50 : Int32))] [(.long ((1125899906842623 : Int64) ||| ((1 : Int64) <<< ((50 : Int32) &&& 0x3f).toInt64)))])) _
    rw [show ((1125899906842623 : Int64) ||| ((1 : Int64) <<< ((50 : Int32) &&& 0x3f).toInt64)) = (2251799813685247 : Int64) from by decide +kernel]
    refine XS.lstoreN X150.here hx rfl (hb hby d1_15) rfl (l' := #[.val (.ref r0), .val (.long (2251799813685247 : Int64)), .second, .val (.int (50 : Int32))]) rfl ?_
    show Steps p.tables e below (T150.setTop (mkF m 16 #[.val (.ref r0), .val (.long (2251799813685247 : Int64)), .second, .val (.int (50 : Int32))] [])) _
    refine XS.iloadN X150.here hx rfl (hb hby d1_16) rfl ?_
    show Steps p.tables e below (T150.setTop (mkF m 17 #[.val (.ref r0), .val (.long (2251799813685247 : Int64)), .second, .val (.int (50 : Int32))] [(.int (50 : Int32))])) _
    refine XS.aloadN X150.here hx rfl (hb hby d1_17) rfl rfl ?_
    show Steps p.tables e below (T150.setTop (mkF m 18 #[.val (.ref r0), .val (.long (2251799813685247 : Int64)), .second, .val (.int (50 : Int32))] [(.ref r0), (.int (50 : Int32))])) _
    refine st151 _ ?_
    show Steps p.tables e below (T151.setTop (mkF m 21 #[.val (.ref r0), .val (.long (2251799813685247 : Int64)), .second, .val (.int (50 : Int32))] [(.int (1 : Int32)), (.int (50 : Int32))])) _
    refine XS.iadd X151.here hx rfl (hb hby d1_21) rfl ?_
    show Steps p.tables e below (T151.setTop (mkF m 22 #[.val (.ref r0), .val (.long (2251799813685247 : Int64)), .second, .val (.int (50 : Int32))] [(.int (51 : Int32))])) _
    refine XS.istoreN X151.here hx rfl (hb hby d1_22) rfl (l' := #[.val (.ref r0), .val (.long (2251799813685247 : Int64)), .second, .val (.int (51 : Int32))]) rfl ?_
    show Steps p.tables e below (T151.setTop (mkF m 23 #[.val (.ref r0), .val (.long (2251799813685247 : Int64)), .second, .val (.int (51 : Int32))] [])) _
    refine XS.goto X151.here hx rfl (pc0 := 23) (pc' := 4) rfl (hb hby d1_23) (by decide) (by decide) ?_
    show Steps p.tables e below (T151.setTop (mkF m 4 #[.val (.ref r0), .val (.long (2251799813685247 : Int64)), .second, .val (.int (51 : Int32))] [])) _
    refine XS.iloadN X151.here hx rfl (hb hby d1_4) rfl ?_
    show Steps p.tables e below (T151.setTop (mkF m 5 #[.val (.ref r0), .val (.long (2251799813685247 : Int64)), .second, .val (.int (51 : Int32))] [(.int (51 : Int32))])) _
    refine XS.bipush X151.here hx rfl (hb hby d1_5) ?_
    show Steps p.tables e below (T151.setTop (mkF m 7 #[.val (.ref r0), .val (.long (2251799813685247 : Int64)), .second, .val (.int (51 : Int32))] [(.int (64 : Int32)), (.int (51 : Int32))])) _
    refine XS.icmpNo X151.here hx rfl (hb hby d1_7) rfl (tlt (by decide : (51 : Int32) < (64 : Int32))).2.1 ?_
    show Steps p.tables e below (T151.setTop (mkF m 10 #[.val (.ref r0), .val (.long (2251799813685247 : Int64)), .second, .val (.int (51 : Int32))] [])) _
    refine XS.lloadN X151.here hx rfl (hb hby d1_10) rfl ?_
    show Steps p.tables e below (T151.setTop (mkF m 11 #[.val (.ref r0), .val (.long (2251799813685247 : Int64)), .second, .val (.int (51 : Int32))] [(.long (2251799813685247 : Int64))])) _
    refine XS.lconst X151.here hx rfl (hb hby d1_11) ?_
    show Steps p.tables e below (T151.setTop (mkF m 12 #[.val (.ref r0), .val (.long (2251799813685247 : Int64)), .second, .val (.int (51 : Int32))] [(.long (1 : Int64)), (.long (2251799813685247 : Int64))])) _
    refine XS.iloadN X151.here hx rfl (hb hby d1_12) rfl ?_
    show Steps p.tables e below (T151.setTop (mkF m 13 #[.val (.ref r0), .val (.long (2251799813685247 : Int64)), .second, .val (.int (51 : Int32))] [(.int (51 : Int32)), (.long (1 : Int64)), (.long (2251799813685247 : Int64))])) _
    refine XS.lshl X151.here hx rfl (hb hby d1_13) rfl ?_
    show Steps p.tables e below (T151.setTop (mkF m 14 #[.val (.ref r0), .val (.long (2251799813685247 : Int64)), .second, .val (.int (51 : Int32))] [(.long ((1 : Int64) <<< ((51 : Int32) &&& 0x3f).toInt64)), (.long (2251799813685247 : Int64))])) _
    refine XS.lor X151.here hx rfl (hb hby d1_14) rfl ?_
    show Steps p.tables e below (T151.setTop (mkF m 15 #[.val (.ref r0), .val (.long (2251799813685247 : Int64)), .second, .val (.int (51 : Int32))] [(.long ((2251799813685247 : Int64) ||| ((1 : Int64) <<< ((51 : Int32) &&& 0x3f).toInt64)))])) _
    rw [show ((2251799813685247 : Int64) ||| ((1 : Int64) <<< ((51 : Int32) &&& 0x3f).toInt64)) = (4503599627370495 : Int64) from by decide +kernel]
    refine XS.lstoreN X151.here hx rfl (hb hby d1_15) rfl (l' := #[.val (.ref r0), .val (.long (4503599627370495 : Int64)), .second, .val (.int (51 : Int32))]) rfl ?_
    show Steps p.tables e below (T151.setTop (mkF m 16 #[.val (.ref r0), .val (.long (4503599627370495 : Int64)), .second, .val (.int (51 : Int32))] [])) _
    refine XS.iloadN X151.here hx rfl (hb hby d1_16) rfl ?_
    show Steps p.tables e below (T151.setTop (mkF m 17 #[.val (.ref r0), .val (.long (4503599627370495 : Int64)), .second, .val (.int (51 : Int32))] [(.int (51 : Int32))])) _
    refine XS.aloadN X151.here hx rfl (hb hby d1_17) rfl rfl ?_
    show Steps p.tables e below (T151.setTop (mkF m 18 #[.val (.ref r0), .val (.long (4503599627370495 : Int64)), .second, .val (.int (51 : Int32))] [(.ref r0), (.int (51 : Int32))])) _
    refine st152 _ ?_
    show Steps p.tables e below (T152.setTop (mkF m 21 #[.val (.ref r0), .val (.long (4503599627370495 : Int64)), .second, .val (.int (51 : Int32))] [(.int (1 : Int32)), (.int (51 : Int32))])) _
    refine XS.iadd X152.here hx rfl (hb hby d1_21) rfl ?_
    show Steps p.tables e below (T152.setTop (mkF m 22 #[.val (.ref r0), .val (.long (4503599627370495 : Int64)), .second, .val (.int (51 : Int32))] [(.int (52 : Int32))])) _
    refine XS.istoreN X152.here hx rfl (hb hby d1_22) rfl (l' := #[.val (.ref r0), .val (.long (4503599627370495 : Int64)), .second, .val (.int (52 : Int32))]) rfl ?_
    show Steps p.tables e below (T152.setTop (mkF m 23 #[.val (.ref r0), .val (.long (4503599627370495 : Int64)), .second, .val (.int (52 : Int32))] [])) _
    refine XS.goto X152.here hx rfl (pc0 := 23) (pc' := 4) rfl (hb hby d1_23) (by decide) (by decide) ?_
    show Steps p.tables e below (T152.setTop (mkF m 4 #[.val (.ref r0), .val (.long (4503599627370495 : Int64)), .second, .val (.int (52 : Int32))] [])) _
    refine XS.iloadN X152.here hx rfl (hb hby d1_4) rfl ?_
    show Steps p.tables e below (T152.setTop (mkF m 5 #[.val (.ref r0), .val (.long (4503599627370495 : Int64)), .second, .val (.int (52 : Int32))] [(.int (52 : Int32))])) _
    refine XS.bipush X152.here hx rfl (hb hby d1_5) ?_
    show Steps p.tables e below (T152.setTop (mkF m 7 #[.val (.ref r0), .val (.long (4503599627370495 : Int64)), .second, .val (.int (52 : Int32))] [(.int (64 : Int32)), (.int (52 : Int32))])) _
    refine XS.icmpNo X152.here hx rfl (hb hby d1_7) rfl (tlt (by decide : (52 : Int32) < (64 : Int32))).2.1 ?_
    show Steps p.tables e below (T152.setTop (mkF m 10 #[.val (.ref r0), .val (.long (4503599627370495 : Int64)), .second, .val (.int (52 : Int32))] [])) _
    refine XS.lloadN X152.here hx rfl (hb hby d1_10) rfl ?_
    show Steps p.tables e below (T152.setTop (mkF m 11 #[.val (.ref r0), .val (.long (4503599627370495 : Int64)), .second, .val (.int (52 : Int32))] [(.long (4503599627370495 : Int64))])) _
    refine XS.lconst X152.here hx rfl (hb hby d1_11) ?_
    show Steps p.tables e below (T152.setTop (mkF m 12 #[.val (.ref r0), .val (.long (4503599627370495 : Int64)), .second, .val (.int (52 : Int32))] [(.long (1 : Int64)), (.long (4503599627370495 : Int64))])) _
    refine XS.iloadN X152.here hx rfl (hb hby d1_12) rfl ?_
    show Steps p.tables e below (T152.setTop (mkF m 13 #[.val (.ref r0), .val (.long (4503599627370495 : Int64)), .second, .val (.int (52 : Int32))] [(.int (52 : Int32)), (.long (1 : Int64)), (.long (4503599627370495 : Int64))])) _
    refine XS.lshl X152.here hx rfl (hb hby d1_13) rfl ?_
    show Steps p.tables e below (T152.setTop (mkF m 14 #[.val (.ref r0), .val (.long (4503599627370495 : Int64)), .second, .val (.int (52 : Int32))] [(.long ((1 : Int64) <<< ((52 : Int32) &&& 0x3f).toInt64)), (.long (4503599627370495 : Int64))])) _
    refine XS.lor X152.here hx rfl (hb hby d1_14) rfl ?_
    show Steps p.tables e below (T152.setTop (mkF m 15 #[.val (.ref r0), .val (.long (4503599627370495 : Int64)), .second, .val (.int (52 : Int32))] [(.long ((4503599627370495 : Int64) ||| ((1 : Int64) <<< ((52 : Int32) &&& 0x3f).toInt64)))])) _
    rw [show ((4503599627370495 : Int64) ||| ((1 : Int64) <<< ((52 : Int32) &&& 0x3f).toInt64)) = (9007199254740991 : Int64) from by decide +kernel]
    refine XS.lstoreN X152.here hx rfl (hb hby d1_15) rfl (l' := #[.val (.ref r0), .val (.long (9007199254740991 : Int64)), .second, .val (.int (52 : Int32))]) rfl ?_
    show Steps p.tables e below (T152.setTop (mkF m 16 #[.val (.ref r0), .val (.long (9007199254740991 : Int64)), .second, .val (.int (52 : Int32))] [])) _
    refine XS.iloadN X152.here hx rfl (hb hby d1_16) rfl ?_
    show Steps p.tables e below (T152.setTop (mkF m 17 #[.val (.ref r0), .val (.long (9007199254740991 : Int64)), .second, .val (.int (52 : Int32))] [(.int (52 : Int32))])) _
    refine XS.aloadN X152.here hx rfl (hb hby d1_17) rfl rfl ?_
    show Steps p.tables e below (T152.setTop (mkF m 18 #[.val (.ref r0), .val (.long (9007199254740991 : Int64)), .second, .val (.int (52 : Int32))] [(.ref r0), (.int (52 : Int32))])) _
    refine st153 _ ?_
    show Steps p.tables e below (T153.setTop (mkF m 21 #[.val (.ref r0), .val (.long (9007199254740991 : Int64)), .second, .val (.int (52 : Int32))] [(.int (1 : Int32)), (.int (52 : Int32))])) _
    refine XS.iadd X153.here hx rfl (hb hby d1_21) rfl ?_
    show Steps p.tables e below (T153.setTop (mkF m 22 #[.val (.ref r0), .val (.long (9007199254740991 : Int64)), .second, .val (.int (52 : Int32))] [(.int (53 : Int32))])) _
    refine XS.istoreN X153.here hx rfl (hb hby d1_22) rfl (l' := #[.val (.ref r0), .val (.long (9007199254740991 : Int64)), .second, .val (.int (53 : Int32))]) rfl ?_
    show Steps p.tables e below (T153.setTop (mkF m 23 #[.val (.ref r0), .val (.long (9007199254740991 : Int64)), .second, .val (.int (53 : Int32))] [])) _
    refine XS.goto X153.here hx rfl (pc0 := 23) (pc' := 4) rfl (hb hby d1_23) (by decide) (by decide) ?_
    show Steps p.tables e below (T153.setTop (mkF m 4 #[.val (.ref r0), .val (.long (9007199254740991 : Int64)), .second, .val (.int (53 : Int32))] [])) _
    refine XS.iloadN X153.here hx rfl (hb hby d1_4) rfl ?_
    show Steps p.tables e below (T153.setTop (mkF m 5 #[.val (.ref r0), .val (.long (9007199254740991 : Int64)), .second, .val (.int (53 : Int32))] [(.int (53 : Int32))])) _
    refine XS.bipush X153.here hx rfl (hb hby d1_5) ?_
    show Steps p.tables e below (T153.setTop (mkF m 7 #[.val (.ref r0), .val (.long (9007199254740991 : Int64)), .second, .val (.int (53 : Int32))] [(.int (64 : Int32)), (.int (53 : Int32))])) _
    refine XS.icmpNo X153.here hx rfl (hb hby d1_7) rfl (tlt (by decide : (53 : Int32) < (64 : Int32))).2.1 ?_
    show Steps p.tables e below (T153.setTop (mkF m 10 #[.val (.ref r0), .val (.long (9007199254740991 : Int64)), .second, .val (.int (53 : Int32))] [])) _
    refine XS.lloadN X153.here hx rfl (hb hby d1_10) rfl ?_
    show Steps p.tables e below (T153.setTop (mkF m 11 #[.val (.ref r0), .val (.long (9007199254740991 : Int64)), .second, .val (.int (53 : Int32))] [(.long (9007199254740991 : Int64))])) _
    refine XS.lconst X153.here hx rfl (hb hby d1_11) ?_
    show Steps p.tables e below (T153.setTop (mkF m 12 #[.val (.ref r0), .val (.long (9007199254740991 : Int64)), .second, .val (.int (53 : Int32))] [(.long (1 : Int64)), (.long (9007199254740991 : Int64))])) _
    refine XS.iloadN X153.here hx rfl (hb hby d1_12) rfl ?_
    show Steps p.tables e below (T153.setTop (mkF m 13 #[.val (.ref r0), .val (.long (9007199254740991 : Int64)), .second, .val (.int (53 : Int32))] [(.int (53 : Int32)), (.long (1 : Int64)), (.long (9007199254740991 : Int64))])) _
    refine XS.lshl X153.here hx rfl (hb hby d1_13) rfl ?_
    show Steps p.tables e below (T153.setTop (mkF m 14 #[.val (.ref r0), .val (.long (9007199254740991 : Int64)), .second, .val (.int (53 : Int32))] [(.long ((1 : Int64) <<< ((53 : Int32) &&& 0x3f).toInt64)), (.long (9007199254740991 : Int64))])) _
    refine XS.lor X153.here hx rfl (hb hby d1_14) rfl ?_
    show Steps p.tables e below (T153.setTop (mkF m 15 #[.val (.ref r0), .val (.long (9007199254740991 : Int64)), .second, .val (.int (53 : Int32))] [(.long ((9007199254740991 : Int64) ||| ((1 : Int64) <<< ((53 : Int32) &&& 0x3f).toInt64)))])) _
    rw [show ((9007199254740991 : Int64) ||| ((1 : Int64) <<< ((53 : Int32) &&& 0x3f).toInt64)) = (18014398509481983 : Int64) from by decide +kernel]
    refine XS.lstoreN X153.here hx rfl (hb hby d1_15) rfl (l' := #[.val (.ref r0), .val (.long (18014398509481983 : Int64)), .second, .val (.int (53 : Int32))]) rfl ?_
    show Steps p.tables e below (T153.setTop (mkF m 16 #[.val (.ref r0), .val (.long (18014398509481983 : Int64)), .second, .val (.int (53 : Int32))] [])) _
    refine XS.iloadN X153.here hx rfl (hb hby d1_16) rfl ?_
    show Steps p.tables e below (T153.setTop (mkF m 17 #[.val (.ref r0), .val (.long (18014398509481983 : Int64)), .second, .val (.int (53 : Int32))] [(.int (53 : Int32))])) _
    refine XS.aloadN X153.here hx rfl (hb hby d1_17) rfl rfl ?_
    show Steps p.tables e below (T153.setTop (mkF m 18 #[.val (.ref r0), .val (.long (18014398509481983 : Int64)), .second, .val (.int (53 : Int32))] [(.ref r0), (.int (53 : Int32))])) _
    refine st154 _ ?_
    show Steps p.tables e below (T154.setTop (mkF m 21 #[.val (.ref r0), .val (.long (18014398509481983 : Int64)), .second, .val (.int (53 : Int32))] [(.int (1 : Int32)), (.int (53 : Int32))])) _
    refine XS.iadd X154.here hx rfl (hb hby d1_21) rfl ?_
    show Steps p.tables e below (T154.setTop (mkF m 22 #[.val (.ref r0), .val (.long (18014398509481983 : Int64)), .second, .val (.int (53 : Int32))] [(.int (54 : Int32))])) _
    refine XS.istoreN X154.here hx rfl (hb hby d1_22) rfl (l' := #[.val (.ref r0), .val (.long (18014398509481983 : Int64)), .second, .val (.int (54 : Int32))]) rfl ?_
    show Steps p.tables e below (T154.setTop (mkF m 23 #[.val (.ref r0), .val (.long (18014398509481983 : Int64)), .second, .val (.int (54 : Int32))] [])) _
    refine XS.goto X154.here hx rfl (pc0 := 23) (pc' := 4) rfl (hb hby d1_23) (by decide) (by decide) ?_
    show Steps p.tables e below (T154.setTop (mkF m 4 #[.val (.ref r0), .val (.long (18014398509481983 : Int64)), .second, .val (.int (54 : Int32))] [])) _
    refine XS.iloadN X154.here hx rfl (hb hby d1_4) rfl ?_
    show Steps p.tables e below (T154.setTop (mkF m 5 #[.val (.ref r0), .val (.long (18014398509481983 : Int64)), .second, .val (.int (54 : Int32))] [(.int (54 : Int32))])) _
    refine XS.bipush X154.here hx rfl (hb hby d1_5) ?_
    show Steps p.tables e below (T154.setTop (mkF m 7 #[.val (.ref r0), .val (.long (18014398509481983 : Int64)), .second, .val (.int (54 : Int32))] [(.int (64 : Int32)), (.int (54 : Int32))])) _
    refine XS.icmpNo X154.here hx rfl (hb hby d1_7) rfl (tlt (by decide : (54 : Int32) < (64 : Int32))).2.1 ?_
    show Steps p.tables e below (T154.setTop (mkF m 10 #[.val (.ref r0), .val (.long (18014398509481983 : Int64)), .second, .val (.int (54 : Int32))] [])) _
    refine XS.lloadN X154.here hx rfl (hb hby d1_10) rfl ?_
    show Steps p.tables e below (T154.setTop (mkF m 11 #[.val (.ref r0), .val (.long (18014398509481983 : Int64)), .second, .val (.int (54 : Int32))] [(.long (18014398509481983 : Int64))])) _
    refine XS.lconst X154.here hx rfl (hb hby d1_11) ?_
    show Steps p.tables e below (T154.setTop (mkF m 12 #[.val (.ref r0), .val (.long (18014398509481983 : Int64)), .second, .val (.int (54 : Int32))] [(.long (1 : Int64)), (.long (18014398509481983 : Int64))])) _
    refine XS.iloadN X154.here hx rfl (hb hby d1_12) rfl ?_
    show Steps p.tables e below (T154.setTop (mkF m 13 #[.val (.ref r0), .val (.long (18014398509481983 : Int64)), .second, .val (.int (54 : Int32))] [(.int (54 : Int32)), (.long (1 : Int64)), (.long (18014398509481983 : Int64))])) _
    refine XS.lshl X154.here hx rfl (hb hby d1_13) rfl ?_
    show Steps p.tables e below (T154.setTop (mkF m 14 #[.val (.ref r0), .val (.long (18014398509481983 : Int64)), .second, .val (.int (54 : Int32))] [(.long ((1 : Int64) <<< ((54 : Int32) &&& 0x3f).toInt64)), (.long (18014398509481983 : Int64))])) _
    refine XS.lor X154.here hx rfl (hb hby d1_14) rfl ?_
    show Steps p.tables e below (T154.setTop (mkF m 15 #[.val (.ref r0), .val (.long (18014398509481983 : Int64)), .second, .val (.int (54 : Int32))] [(.long ((18014398509481983 : Int64) ||| ((1 : Int64) <<< ((54 : Int32) &&& 0x3f).toInt64)))])) _
    rw [show ((18014398509481983 : Int64) ||| ((1 : Int64) <<< ((54 : Int32) &&& 0x3f).toInt64)) = (36028797018963967 : Int64) from by decide +kernel]
    refine XS.lstoreN X154.here hx rfl (hb hby d1_15) rfl (l' := #[.val (.ref r0), .val (.long (36028797018963967 : Int64)), .second, .val (.int (54 : Int32))]) rfl ?_
    show Steps p.tables e below (T154.setTop (mkF m 16 #[.val (.ref r0), .val (.long (36028797018963967 : Int64)), .second, .val (.int (54 : Int32))] [])) _
    refine XS.iloadN X154.here hx rfl (hb hby d1_16) rfl ?_
    show Steps p.tables e below (T154.setTop (mkF m 17 #[.val (.ref r0), .val (.long (36028797018963967 : Int64)), .second, .val (.int (54 : Int32))] [(.int (54 : Int32))])) _
    refine XS.aloadN X154.here hx rfl (hb hby d1_17) rfl rfl ?_
    show Steps p.tables e below (T154.setTop (mkF m 18 #[.val (.ref r0), .val (.long (36028797018963967 : Int64)), .second, .val (.int (54 : Int32))] [(.ref r0), (.int (54 : Int32))])) _
    refine st155 _ ?_
    show Steps p.tables e below (T155.setTop (mkF m 21 #[.val (.ref r0), .val (.long (36028797018963967 : Int64)), .second, .val (.int (54 : Int32))] [(.int (1 : Int32)), (.int (54 : Int32))])) _
    refine XS.iadd X155.here hx rfl (hb hby d1_21) rfl ?_
    show Steps p.tables e below (T155.setTop (mkF m 22 #[.val (.ref r0), .val (.long (36028797018963967 : Int64)), .second, .val (.int (54 : Int32))] [(.int (55 : Int32))])) _
    refine XS.istoreN X155.here hx rfl (hb hby d1_22) rfl (l' := #[.val (.ref r0), .val (.long (36028797018963967 : Int64)), .second, .val (.int (55 : Int32))]) rfl ?_
    show Steps p.tables e below (T155.setTop (mkF m 23 #[.val (.ref r0), .val (.long (36028797018963967 : Int64)), .second, .val (.int (55 : Int32))] [])) _
    refine XS.goto X155.here hx rfl (pc0 := 23) (pc' := 4) rfl (hb hby d1_23) (by decide) (by decide) ?_
    show Steps p.tables e below (T155.setTop (mkF m 4 #[.val (.ref r0), .val (.long (36028797018963967 : Int64)), .second, .val (.int (55 : Int32))] [])) _
    refine XS.iloadN X155.here hx rfl (hb hby d1_4) rfl ?_
    show Steps p.tables e below (T155.setTop (mkF m 5 #[.val (.ref r0), .val (.long (36028797018963967 : Int64)), .second, .val (.int (55 : Int32))] [(.int (55 : Int32))])) _
    refine XS.bipush X155.here hx rfl (hb hby d1_5) ?_
    show Steps p.tables e below (T155.setTop (mkF m 7 #[.val (.ref r0), .val (.long (36028797018963967 : Int64)), .second, .val (.int (55 : Int32))] [(.int (64 : Int32)), (.int (55 : Int32))])) _
    refine XS.icmpNo X155.here hx rfl (hb hby d1_7) rfl (tlt (by decide : (55 : Int32) < (64 : Int32))).2.1 ?_
    show Steps p.tables e below (T155.setTop (mkF m 10 #[.val (.ref r0), .val (.long (36028797018963967 : Int64)), .second, .val (.int (55 : Int32))] [])) _
    refine XS.lloadN X155.here hx rfl (hb hby d1_10) rfl ?_
    show Steps p.tables e below (T155.setTop (mkF m 11 #[.val (.ref r0), .val (.long (36028797018963967 : Int64)), .second, .val (.int (55 : Int32))] [(.long (36028797018963967 : Int64))])) _
    refine XS.lconst X155.here hx rfl (hb hby d1_11) ?_
    show Steps p.tables e below (T155.setTop (mkF m 12 #[.val (.ref r0), .val (.long (36028797018963967 : Int64)), .second, .val (.int (55 : Int32))] [(.long (1 : Int64)), (.long (36028797018963967 : Int64))])) _
    refine XS.iloadN X155.here hx rfl (hb hby d1_12) rfl ?_
    show Steps p.tables e below (T155.setTop (mkF m 13 #[.val (.ref r0), .val (.long (36028797018963967 : Int64)), .second, .val (.int (55 : Int32))] [(.int (55 : Int32)), (.long (1 : Int64)), (.long (36028797018963967 : Int64))])) _
    refine XS.lshl X155.here hx rfl (hb hby d1_13) rfl ?_
    show Steps p.tables e below (T155.setTop (mkF m 14 #[.val (.ref r0), .val (.long (36028797018963967 : Int64)), .second, .val (.int (55 : Int32))] [(.long ((1 : Int64) <<< ((55 : Int32) &&& 0x3f).toInt64)), (.long (36028797018963967 : Int64))])) _
    refine XS.lor X155.here hx rfl (hb hby d1_14) rfl ?_
    show Steps p.tables e below (T155.setTop (mkF m 15 #[.val (.ref r0), .val (.long (36028797018963967 : Int64)), .second, .val (.int (55 : Int32))] [(.long ((36028797018963967 : Int64) ||| ((1 : Int64) <<< ((55 : Int32) &&& 0x3f).toInt64)))])) _
    rw [show ((36028797018963967 : Int64) ||| ((1 : Int64) <<< ((55 : Int32) &&& 0x3f).toInt64)) = (72057594037927935 : Int64) from by decide +kernel]
    refine XS.lstoreN X155.here hx rfl (hb hby d1_15) rfl (l' := #[.val (.ref r0), .val (.long (72057594037927935 : Int64)), .second, .val (.int (55 : Int32))]) rfl ?_
    show Steps p.tables e below (T155.setTop (mkF m 16 #[.val (.ref r0), .val (.long (72057594037927935 : Int64)), .second, .val (.int (55 : Int32))] [])) _
    refine XS.iloadN X155.here hx rfl (hb hby d1_16) rfl ?_
    show Steps p.tables e below (T155.setTop (mkF m 17 #[.val (.ref r0), .val (.long (72057594037927935 : Int64)), .second, .val (.int (55 : Int32))] [(.int (55 : Int32))])) _
    refine XS.aloadN X155.here hx rfl (hb hby d1_17) rfl rfl ?_
    show Steps p.tables e below (T155.setTop (mkF m 18 #[.val (.ref r0), .val (.long (72057594037927935 : Int64)), .second, .val (.int (55 : Int32))] [(.ref r0), (.int (55 : Int32))])) _
    refine st156 _ ?_
    show Steps p.tables e below (T156.setTop (mkF m 21 #[.val (.ref r0), .val (.long (72057594037927935 : Int64)), .second, .val (.int (55 : Int32))] [(.int (1 : Int32)), (.int (55 : Int32))])) _
    refine XS.iadd X156.here hx rfl (hb hby d1_21) rfl ?_
    show Steps p.tables e below (T156.setTop (mkF m 22 #[.val (.ref r0), .val (.long (72057594037927935 : Int64)), .second, .val (.int (55 : Int32))] [(.int (56 : Int32))])) _
    refine XS.istoreN X156.here hx rfl (hb hby d1_22) rfl (l' := #[.val (.ref r0), .val (.long (72057594037927935 : Int64)), .second, .val (.int (56 : Int32))]) rfl ?_
    show Steps p.tables e below (T156.setTop (mkF m 23 #[.val (.ref r0), .val (.long (72057594037927935 : Int64)), .second, .val (.int (56 : Int32))] [])) _
    refine XS.goto X156.here hx rfl (pc0 := 23) (pc' := 4) rfl (hb hby d1_23) (by decide) (by decide) ?_
    show Steps p.tables e below (T156.setTop (mkF m 4 #[.val (.ref r0), .val (.long (72057594037927935 : Int64)), .second, .val (.int (56 : Int32))] [])) _
    refine XS.iloadN X156.here hx rfl (hb hby d1_4) rfl ?_
    show Steps p.tables e below (T156.setTop (mkF m 5 #[.val (.ref r0), .val (.long (72057594037927935 : Int64)), .second, .val (.int (56 : Int32))] [(.int (56 : Int32))])) _
    refine XS.bipush X156.here hx rfl (hb hby d1_5) ?_
    show Steps p.tables e below (T156.setTop (mkF m 7 #[.val (.ref r0), .val (.long (72057594037927935 : Int64)), .second, .val (.int (56 : Int32))] [(.int (64 : Int32)), (.int (56 : Int32))])) _
    refine XS.icmpNo X156.here hx rfl (hb hby d1_7) rfl (tlt (by decide : (56 : Int32) < (64 : Int32))).2.1 ?_
    show Steps p.tables e below (T156.setTop (mkF m 10 #[.val (.ref r0), .val (.long (72057594037927935 : Int64)), .second, .val (.int (56 : Int32))] [])) _
    refine XS.lloadN X156.here hx rfl (hb hby d1_10) rfl ?_
    show Steps p.tables e below (T156.setTop (mkF m 11 #[.val (.ref r0), .val (.long (72057594037927935 : Int64)), .second, .val (.int (56 : Int32))] [(.long (72057594037927935 : Int64))])) _
    refine XS.lconst X156.here hx rfl (hb hby d1_11) ?_
    show Steps p.tables e below (T156.setTop (mkF m 12 #[.val (.ref r0), .val (.long (72057594037927935 : Int64)), .second, .val (.int (56 : Int32))] [(.long (1 : Int64)), (.long (72057594037927935 : Int64))])) _
    refine XS.iloadN X156.here hx rfl (hb hby d1_12) rfl ?_
    show Steps p.tables e below (T156.setTop (mkF m 13 #[.val (.ref r0), .val (.long (72057594037927935 : Int64)), .second, .val (.int (56 : Int32))] [(.int (56 : Int32)), (.long (1 : Int64)), (.long (72057594037927935 : Int64))])) _
    refine XS.lshl X156.here hx rfl (hb hby d1_13) rfl ?_
    show Steps p.tables e below (T156.setTop (mkF m 14 #[.val (.ref r0), .val (.long (72057594037927935 : Int64)), .second, .val (.int (56 : Int32))] [(.long ((1 : Int64) <<< ((56 : Int32) &&& 0x3f).toInt64)), (.long (72057594037927935 : Int64))])) _
    refine XS.lor X156.here hx rfl (hb hby d1_14) rfl ?_
    show Steps p.tables e below (T156.setTop (mkF m 15 #[.val (.ref r0), .val (.long (72057594037927935 : Int64)), .second, .val (.int (56 : Int32))] [(.long ((72057594037927935 : Int64) ||| ((1 : Int64) <<< ((56 : Int32) &&& 0x3f).toInt64)))])) _
    rw [show ((72057594037927935 : Int64) ||| ((1 : Int64) <<< ((56 : Int32) &&& 0x3f).toInt64)) = (144115188075855871 : Int64) from by decide +kernel]
    refine XS.lstoreN X156.here hx rfl (hb hby d1_15) rfl (l' := #[.val (.ref r0), .val (.long (144115188075855871 : Int64)), .second, .val (.int (56 : Int32))]) rfl ?_
    show Steps p.tables e below (T156.setTop (mkF m 16 #[.val (.ref r0), .val (.long (144115188075855871 : Int64)), .second, .val (.int (56 : Int32))] [])) _
    refine XS.iloadN X156.here hx rfl (hb hby d1_16) rfl ?_
    show Steps p.tables e below (T156.setTop (mkF m 17 #[.val (.ref r0), .val (.long (144115188075855871 : Int64)), .second, .val (.int (56 : Int32))] [(.int (56 : Int32))])) _
    refine XS.aloadN X156.here hx rfl (hb hby d1_17) rfl rfl ?_
    show Steps p.tables e below (T156.setTop (mkF m 18 #[.val (.ref r0), .val (.long (144115188075855871 : Int64)), .second, .val (.int (56 : Int32))] [(.ref r0), (.int (56 : Int32))])) _
    refine st157 _ ?_
    show Steps p.tables e below (T157.setTop (mkF m 21 #[.val (.ref r0), .val (.long (144115188075855871 : Int64)), .second, .val (.int (56 : Int32))] [(.int (1 : Int32)), (.int (56 : Int32))])) _
    refine XS.iadd X157.here hx rfl (hb hby d1_21) rfl ?_
    show Steps p.tables e below (T157.setTop (mkF m 22 #[.val (.ref r0), .val (.long (144115188075855871 : Int64)), .second, .val (.int (56 : Int32))] [(.int (57 : Int32))])) _
    refine XS.istoreN X157.here hx rfl (hb hby d1_22) rfl (l' := #[.val (.ref r0), .val (.long (144115188075855871 : Int64)), .second, .val (.int (57 : Int32))]) rfl ?_
    show Steps p.tables e below (T157.setTop (mkF m 23 #[.val (.ref r0), .val (.long (144115188075855871 : Int64)), .second, .val (.int (57 : Int32))] [])) _
    refine XS.goto X157.here hx rfl (pc0 := 23) (pc' := 4) rfl (hb hby d1_23) (by decide) (by decide) ?_
    show Steps p.tables e below (T157.setTop (mkF m 4 #[.val (.ref r0), .val (.long (144115188075855871 : Int64)), .second, .val (.int (57 : Int32))] [])) _
    refine XS.iloadN X157.here hx rfl (hb hby d1_4) rfl ?_
    show Steps p.tables e below (T157.setTop (mkF m 5 #[.val (.ref r0), .val (.long (144115188075855871 : Int64)), .second, .val (.int (57 : Int32))] [(.int (57 : Int32))])) _
    refine XS.bipush X157.here hx rfl (hb hby d1_5) ?_
    show Steps p.tables e below (T157.setTop (mkF m 7 #[.val (.ref r0), .val (.long (144115188075855871 : Int64)), .second, .val (.int (57 : Int32))] [(.int (64 : Int32)), (.int (57 : Int32))])) _
    refine XS.icmpNo X157.here hx rfl (hb hby d1_7) rfl (tlt (by decide : (57 : Int32) < (64 : Int32))).2.1 ?_
    show Steps p.tables e below (T157.setTop (mkF m 10 #[.val (.ref r0), .val (.long (144115188075855871 : Int64)), .second, .val (.int (57 : Int32))] [])) _
    refine XS.lloadN X157.here hx rfl (hb hby d1_10) rfl ?_
    show Steps p.tables e below (T157.setTop (mkF m 11 #[.val (.ref r0), .val (.long (144115188075855871 : Int64)), .second, .val (.int (57 : Int32))] [(.long (144115188075855871 : Int64))])) _
    refine XS.lconst X157.here hx rfl (hb hby d1_11) ?_
    show Steps p.tables e below (T157.setTop (mkF m 12 #[.val (.ref r0), .val (.long (144115188075855871 : Int64)), .second, .val (.int (57 : Int32))] [(.long (1 : Int64)), (.long (144115188075855871 : Int64))])) _
    refine XS.iloadN X157.here hx rfl (hb hby d1_12) rfl ?_
    show Steps p.tables e below (T157.setTop (mkF m 13 #[.val (.ref r0), .val (.long (144115188075855871 : Int64)), .second, .val (.int (57 : Int32))] [(.int (57 : Int32)), (.long (1 : Int64)), (.long (144115188075855871 : Int64))])) _
    refine XS.lshl X157.here hx rfl (hb hby d1_13) rfl ?_
    show Steps p.tables e below (T157.setTop (mkF m 14 #[.val (.ref r0), .val (.long (144115188075855871 : Int64)), .second, .val (.int (57 : Int32))] [(.long ((1 : Int64) <<< ((57 : Int32) &&& 0x3f).toInt64)), (.long (144115188075855871 : Int64))])) _
    refine XS.lor X157.here hx rfl (hb hby d1_14) rfl ?_
    show Steps p.tables e below (T157.setTop (mkF m 15 #[.val (.ref r0), .val (.long (144115188075855871 : Int64)), .second, .val (.int (57 : Int32))] [(.long ((144115188075855871 : Int64) ||| ((1 : Int64) <<< ((57 : Int32) &&& 0x3f).toInt64)))])) _
    rw [show ((144115188075855871 : Int64) ||| ((1 : Int64) <<< ((57 : Int32) &&& 0x3f).toInt64)) = (288230376151711743 : Int64) from by decide +kernel]
    refine XS.lstoreN X157.here hx rfl (hb hby d1_15) rfl (l' := #[.val (.ref r0), .val (.long (288230376151711743 : Int64)), .second, .val (.int (57 : Int32))]) rfl ?_
    show Steps p.tables e below (T157.setTop (mkF m 16 #[.val (.ref r0), .val (.long (288230376151711743 : Int64)), .second, .val (.int (57 : Int32))] [])) _
    refine XS.iloadN X157.here hx rfl (hb hby d1_16) rfl ?_
    show Steps p.tables e below (T157.setTop (mkF m 17 #[.val (.ref r0), .val (.long (288230376151711743 : Int64)), .second, .val (.int (57 : Int32))] [(.int (57 : Int32))])) _
    refine XS.aloadN X157.here hx rfl (hb hby d1_17) rfl rfl ?_
    show Steps p.tables e below (T157.setTop (mkF m 18 #[.val (.ref r0), .val (.long (288230376151711743 : Int64)), .second, .val (.int (57 : Int32))] [(.ref r0), (.int (57 : Int32))])) _
    refine st158 _ ?_
    show Steps p.tables e below (T158.setTop (mkF m 21 #[.val (.ref r0), .val (.long (288230376151711743 : Int64)), .second, .val (.int (57 : Int32))] [(.int (1 : Int32)), (.int (57 : Int32))])) _
    refine XS.iadd X158.here hx rfl (hb hby d1_21) rfl ?_
    show Steps p.tables e below (T158.setTop (mkF m 22 #[.val (.ref r0), .val (.long (288230376151711743 : Int64)), .second, .val (.int (57 : Int32))] [(.int (58 : Int32))])) _
    refine XS.istoreN X158.here hx rfl (hb hby d1_22) rfl (l' := #[.val (.ref r0), .val (.long (288230376151711743 : Int64)), .second, .val (.int (58 : Int32))]) rfl ?_
    show Steps p.tables e below (T158.setTop (mkF m 23 #[.val (.ref r0), .val (.long (288230376151711743 : Int64)), .second, .val (.int (58 : Int32))] [])) _
    refine XS.goto X158.here hx rfl (pc0 := 23) (pc' := 4) rfl (hb hby d1_23) (by decide) (by decide) ?_
    show Steps p.tables e below (T158.setTop (mkF m 4 #[.val (.ref r0), .val (.long (288230376151711743 : Int64)), .second, .val (.int (58 : Int32))] [])) _
    refine XS.iloadN X158.here hx rfl (hb hby d1_4) rfl ?_
    show Steps p.tables e below (T158.setTop (mkF m 5 #[.val (.ref r0), .val (.long (288230376151711743 : Int64)), .second, .val (.int (58 : Int32))] [(.int (58 : Int32))])) _
    refine XS.bipush X158.here hx rfl (hb hby d1_5) ?_
    show Steps p.tables e below (T158.setTop (mkF m 7 #[.val (.ref r0), .val (.long (288230376151711743 : Int64)), .second, .val (.int (58 : Int32))] [(.int (64 : Int32)), (.int (58 : Int32))])) _
    refine XS.icmpNo X158.here hx rfl (hb hby d1_7) rfl (tlt (by decide : (58 : Int32) < (64 : Int32))).2.1 ?_
    show Steps p.tables e below (T158.setTop (mkF m 10 #[.val (.ref r0), .val (.long (288230376151711743 : Int64)), .second, .val (.int (58 : Int32))] [])) _
    refine XS.lloadN X158.here hx rfl (hb hby d1_10) rfl ?_
    show Steps p.tables e below (T158.setTop (mkF m 11 #[.val (.ref r0), .val (.long (288230376151711743 : Int64)), .second, .val (.int (58 : Int32))] [(.long (288230376151711743 : Int64))])) _
    refine XS.lconst X158.here hx rfl (hb hby d1_11) ?_
    show Steps p.tables e below (T158.setTop (mkF m 12 #[.val (.ref r0), .val (.long (288230376151711743 : Int64)), .second, .val (.int (58 : Int32))] [(.long (1 : Int64)), (.long (288230376151711743 : Int64))])) _
    refine XS.iloadN X158.here hx rfl (hb hby d1_12) rfl ?_
    show Steps p.tables e below (T158.setTop (mkF m 13 #[.val (.ref r0), .val (.long (288230376151711743 : Int64)), .second, .val (.int (58 : Int32))] [(.int (58 : Int32)), (.long (1 : Int64)), (.long (288230376151711743 : Int64))])) _
    refine XS.lshl X158.here hx rfl (hb hby d1_13) rfl ?_
    show Steps p.tables e below (T158.setTop (mkF m 14 #[.val (.ref r0), .val (.long (288230376151711743 : Int64)), .second, .val (.int (58 : Int32))] [(.long ((1 : Int64) <<< ((58 : Int32) &&& 0x3f).toInt64)), (.long (288230376151711743 : Int64))])) _
    refine XS.lor X158.here hx rfl (hb hby d1_14) rfl ?_
    show Steps p.tables e below (T158.setTop (mkF m 15 #[.val (.ref r0), .val (.long (288230376151711743 : Int64)), .second, .val (.int (58 : Int32))] [(.long ((288230376151711743 : Int64) ||| ((1 : Int64) <<< ((58 : Int32) &&& 0x3f).toInt64)))])) _
    rw [show ((288230376151711743 : Int64) ||| ((1 : Int64) <<< ((58 : Int32) &&& 0x3f).toInt64)) = (576460752303423487 : Int64) from by decide +kernel]
    refine XS.lstoreN X158.here hx rfl (hb hby d1_15) rfl (l' := #[.val (.ref r0), .val (.long (576460752303423487 : Int64)), .second, .val (.int (58 : Int32))]) rfl ?_
    show Steps p.tables e below (T158.setTop (mkF m 16 #[.val (.ref r0), .val (.long (576460752303423487 : Int64)), .second, .val (.int (58 : Int32))] [])) _
    refine XS.iloadN X158.here hx rfl (hb hby d1_16) rfl ?_
    show Steps p.tables e below (T158.setTop (mkF m 17 #[.val (.ref r0), .val (.long (576460752303423487 : Int64)), .second, .val (.int (58 : Int32))] [(.int (58 : Int32))])) _
    refine XS.aloadN X158.here hx rfl (hb hby d1_17) rfl rfl ?_
    show Steps p.tables e below (T158.setTop (mkF m 18 #[.val (.ref r0), .val (.long (576460752303423487 : Int64)), .second, .val (.int (58 : Int32))] [(.ref r0), (.int (58 : Int32))])) _
    refine st159 _ ?_
    show Steps p.tables e below (T159.setTop (mkF m 21 #[.val (.ref r0), .val (.long (576460752303423487 : Int64)), .second, .val (.int (58 : Int32))] [(.int (1 : Int32)), (.int (58 : Int32))])) _
    refine XS.iadd X159.here hx rfl (hb hby d1_21) rfl ?_
    show Steps p.tables e below (T159.setTop (mkF m 22 #[.val (.ref r0), .val (.long (576460752303423487 : Int64)), .second, .val (.int (58 : Int32))] [(.int (59 : Int32))])) _
    refine XS.istoreN X159.here hx rfl (hb hby d1_22) rfl (l' := #[.val (.ref r0), .val (.long (576460752303423487 : Int64)), .second, .val (.int (59 : Int32))]) rfl ?_
    show Steps p.tables e below (T159.setTop (mkF m 23 #[.val (.ref r0), .val (.long (576460752303423487 : Int64)), .second, .val (.int (59 : Int32))] [])) _
    refine XS.goto X159.here hx rfl (pc0 := 23) (pc' := 4) rfl (hb hby d1_23) (by decide) (by decide) ?_
    show Steps p.tables e below (T159.setTop (mkF m 4 #[.val (.ref r0), .val (.long (576460752303423487 : Int64)), .second, .val (.int (59 : Int32))] [])) _
    refine XS.iloadN X159.here hx rfl (hb hby d1_4) rfl ?_
    show Steps p.tables e below (T159.setTop (mkF m 5 #[.val (.ref r0), .val (.long (576460752303423487 : Int64)), .second, .val (.int (59 : Int32))] [(.int (59 : Int32))])) _
    refine XS.bipush X159.here hx rfl (hb hby d1_5) ?_
    show Steps p.tables e below (T159.setTop (mkF m 7 #[.val (.ref r0), .val (.long (576460752303423487 : Int64)), .second, .val (.int (59 : Int32))] [(.int (64 : Int32)), (.int (59 : Int32))])) _
    refine XS.icmpNo X159.here hx rfl (hb hby d1_7) rfl (tlt (by decide : (59 : Int32) < (64 : Int32))).2.1 ?_
    show Steps p.tables e below (T159.setTop (mkF m 10 #[.val (.ref r0), .val (.long (576460752303423487 : Int64)), .second, .val (.int (59 : Int32))] [])) _
    refine XS.lloadN X159.here hx rfl (hb hby d1_10) rfl ?_
    show Steps p.tables e below (T159.setTop (mkF m 11 #[.val (.ref r0), .val (.long (576460752303423487 : Int64)), .second, .val (.int (59 : Int32))] [(.long (576460752303423487 : Int64))])) _
    refine XS.lconst X159.here hx rfl (hb hby d1_11) ?_
    show Steps p.tables e below (T159.setTop (mkF m 12 #[.val (.ref r0), .val (.long (576460752303423487 : Int64)), .second, .val (.int (59 : Int32))] [(.long (1 : Int64)), (.long (576460752303423487 : Int64))])) _
    refine XS.iloadN X159.here hx rfl (hb hby d1_12) rfl ?_
    show Steps p.tables e below (T159.setTop (mkF m 13 #[.val (.ref r0), .val (.long (576460752303423487 : Int64)), .second, .val (.int (59 : Int32))] [(.int (59 : Int32)), (.long (1 : Int64)), (.long (576460752303423487 : Int64))])) _
    refine XS.lshl X159.here hx rfl (hb hby d1_13) rfl ?_
    show Steps p.tables e below (T159.setTop (mkF m 14 #[.val (.ref r0), .val (.long (576460752303423487 : Int64)), .second, .val (.int (59 : Int32))] [(.long ((1 : Int64) <<< ((59 : Int32) &&& 0x3f).toInt64)), (.long (576460752303423487 : Int64))])) _
    refine XS.lor X159.here hx rfl (hb hby d1_14) rfl ?_
    show Steps p.tables e below (T159.setTop (mkF m 15 #[.val (.ref r0), .val (.long (576460752303423487 : Int64)), .second, .val (.int (59 : Int32))] [(.long ((576460752303423487 : Int64) ||| ((1 : Int64) <<< ((59 : Int32) &&& 0x3f).toInt64)))])) _
    rw [show ((576460752303423487 : Int64) ||| ((1 : Int64) <<< ((59 : Int32) &&& 0x3f).toInt64)) = (1152921504606846975 : Int64) from by decide +kernel]
    refine XS.lstoreN X159.here hx rfl (hb hby d1_15) rfl (l' := #[.val (.ref r0), .val (.long (1152921504606846975 : Int64)), .second, .val (.int (59 : Int32))]) rfl ?_
    show Steps p.tables e below (T159.setTop (mkF m 16 #[.val (.ref r0), .val (.long (1152921504606846975 : Int64)), .second, .val (.int (59 : Int32))] [])) _
    refine XS.iloadN X159.here hx rfl (hb hby d1_16) rfl ?_
    show Steps p.tables e below (T159.setTop (mkF m 17 #[.val (.ref r0), .val (.long (1152921504606846975 : Int64)), .second, .val (.int (59 : Int32))] [(.int (59 : Int32))])) _
    refine XS.aloadN X159.here hx rfl (hb hby d1_17) rfl rfl ?_
    show Steps p.tables e below (T159.setTop (mkF m 18 #[.val (.ref r0), .val (.long (1152921504606846975 : Int64)), .second, .val (.int (59 : Int32))] [(.ref r0), (.int (59 : Int32))])) _
    refine st160 _ ?_
    show Steps p.tables e below (T160.setTop (mkF m 21 #[.val (.ref r0), .val (.long (1152921504606846975 : Int64)), .second, .val (.int (59 : Int32))] [(.int (1 : Int32)), (.int (59 : Int32))])) _
    refine XS.iadd X160.here hx rfl (hb hby d1_21) rfl ?_
    show Steps p.tables e below (T160.setTop (mkF m 22 #[.val (.ref r0), .val (.long (1152921504606846975 : Int64)), .second, .val (.int (59 : Int32))] [(.int (60 : Int32))])) _
    refine XS.istoreN X160.here hx rfl (hb hby d1_22) rfl (l' := #[.val (.ref r0), .val (.long (1152921504606846975 : Int64)), .second, .val (.int (60 : Int32))]) rfl ?_
    show Steps p.tables e below (T160.setTop (mkF m 23 #[.val (.ref r0), .val (.long (1152921504606846975 : Int64)), .second, .val (.int (60 : Int32))] [])) _
    refine XS.goto X160.here hx rfl (pc0 := 23) (pc' := 4) rfl (hb hby d1_23) (by decide) (by decide) ?_
    show Steps p.tables e below (T160.setTop (mkF m 4 #[.val (.ref r0), .val (.long (1152921504606846975 : Int64)), .second, .val (.int (60 : Int32))] [])) _
    refine XS.iloadN X160.here hx rfl (hb hby d1_4) rfl ?_
    show Steps p.tables e below (T160.setTop (mkF m 5 #[.val (.ref r0), .val (.long (1152921504606846975 : Int64)), .second, .val (.int (60 : Int32))] [(.int (60 : Int32))])) _
    refine XS.bipush X160.here hx rfl (hb hby d1_5) ?_
    show Steps p.tables e below (T160.setTop (mkF m 7 #[.val (.ref r0), .val (.long (1152921504606846975 : Int64)), .second, .val (.int (60 : Int32))] [(.int (64 : Int32)), (.int (60 : Int32))])) _
    refine XS.icmpNo X160.here hx rfl (hb hby d1_7) rfl (tlt (by decide : (60 : Int32) < (64 : Int32))).2.1 ?_
    show Steps p.tables e below (T160.setTop (mkF m 10 #[.val (.ref r0), .val (.long (1152921504606846975 : Int64)), .second, .val (.int (60 : Int32))] [])) _
    refine XS.lloadN X160.here hx rfl (hb hby d1_10) rfl ?_
    show Steps p.tables e below (T160.setTop (mkF m 11 #[.val (.ref r0), .val (.long (1152921504606846975 : Int64)), .second, .val (.int (60 : Int32))] [(.long (1152921504606846975 : Int64))])) _
    refine XS.lconst X160.here hx rfl (hb hby d1_11) ?_
    show Steps p.tables e below (T160.setTop (mkF m 12 #[.val (.ref r0), .val (.long (1152921504606846975 : Int64)), .second, .val (.int (60 : Int32))] [(.long (1 : Int64)), (.long (1152921504606846975 : Int64))])) _
    refine XS.iloadN X160.here hx rfl (hb hby d1_12) rfl ?_
    show Steps p.tables e below (T160.setTop (mkF m 13 #[.val (.ref r0), .val (.long (1152921504606846975 : Int64)), .second, .val (.int (60 : Int32))] [(.int (60 : Int32)), (.long (1 : Int64)), (.long (1152921504606846975 : Int64))])) _
    refine XS.lshl X160.here hx rfl (hb hby d1_13) rfl ?_
    show Steps p.tables e below (T160.setTop (mkF m 14 #[.val (.ref r0), .val (.long (1152921504606846975 : Int64)), .second, .val (.int (60 : Int32))] [(.long ((1 : Int64) <<< ((60 : Int32) &&& 0x3f).toInt64)), (.long (1152921504606846975 : Int64))])) _
    refine XS.lor X160.here hx rfl (hb hby d1_14) rfl ?_
    show Steps p.tables e below (T160.setTop (mkF m 15 #[.val (.ref r0), .val (.long (1152921504606846975 : Int64)), .second, .val (.int (60 : Int32))] [(.long ((1152921504606846975 : Int64) ||| ((1 : Int64) <<< ((60 : Int32) &&& 0x3f).toInt64)))])) _
    rw [show ((1152921504606846975 : Int64) ||| ((1 : Int64) <<< ((60 : Int32) &&& 0x3f).toInt64)) = (2305843009213693951 : Int64) from by decide +kernel]
    refine XS.lstoreN X160.here hx rfl (hb hby d1_15) rfl (l' := #[.val (.ref r0), .val (.long (2305843009213693951 : Int64)), .second, .val (.int (60 : Int32))]) rfl ?_
    show Steps p.tables e below (T160.setTop (mkF m 16 #[.val (.ref r0), .val (.long (2305843009213693951 : Int64)), .second, .val (.int (60 : Int32))] [])) _
    refine XS.iloadN X160.here hx rfl (hb hby d1_16) rfl ?_
    show Steps p.tables e below (T160.setTop (mkF m 17 #[.val (.ref r0), .val (.long (2305843009213693951 : Int64)), .second, .val (.int (60 : Int32))] [(.int (60 : Int32))])) _
    refine XS.aloadN X160.here hx rfl (hb hby d1_17) rfl rfl ?_
    show Steps p.tables e below (T160.setTop (mkF m 18 #[.val (.ref r0), .val (.long (2305843009213693951 : Int64)), .second, .val (.int (60 : Int32))] [(.ref r0), (.int (60 : Int32))])) _
    refine st161 _ ?_
    show Steps p.tables e below (T161.setTop (mkF m 21 #[.val (.ref r0), .val (.long (2305843009213693951 : Int64)), .second, .val (.int (60 : Int32))] [(.int (1 : Int32)), (.int (60 : Int32))])) _
    refine XS.iadd X161.here hx rfl (hb hby d1_21) rfl ?_
    show Steps p.tables e below (T161.setTop (mkF m 22 #[.val (.ref r0), .val (.long (2305843009213693951 : Int64)), .second, .val (.int (60 : Int32))] [(.int (61 : Int32))])) _
    refine XS.istoreN X161.here hx rfl (hb hby d1_22) rfl (l' := #[.val (.ref r0), .val (.long (2305843009213693951 : Int64)), .second, .val (.int (61 : Int32))]) rfl ?_
    show Steps p.tables e below (T161.setTop (mkF m 23 #[.val (.ref r0), .val (.long (2305843009213693951 : Int64)), .second, .val (.int (61 : Int32))] [])) _
    refine XS.goto X161.here hx rfl (pc0 := 23) (pc' := 4) rfl (hb hby d1_23) (by decide) (by decide) ?_
    show Steps p.tables e below (T161.setTop (mkF m 4 #[.val (.ref r0), .val (.long (2305843009213693951 : Int64)), .second, .val (.int (61 : Int32))] [])) _
    refine XS.iloadN X161.here hx rfl (hb hby d1_4) rfl ?_
    show Steps p.tables e below (T161.setTop (mkF m 5 #[.val (.ref r0), .val (.long (2305843009213693951 : Int64)), .second, .val (.int (61 : Int32))] [(.int (61 : Int32))])) _
    refine XS.bipush X161.here hx rfl (hb hby d1_5) ?_
    show Steps p.tables e below (T161.setTop (mkF m 7 #[.val (.ref r0), .val (.long (2305843009213693951 : Int64)), .second, .val (.int (61 : Int32))] [(.int (64 : Int32)), (.int (61 : Int32))])) _
    refine XS.icmpNo X161.here hx rfl (hb hby d1_7) rfl (tlt (by decide : (61 : Int32) < (64 : Int32))).2.1 ?_
    show Steps p.tables e below (T161.setTop (mkF m 10 #[.val (.ref r0), .val (.long (2305843009213693951 : Int64)), .second, .val (.int (61 : Int32))] [])) _
    refine XS.lloadN X161.here hx rfl (hb hby d1_10) rfl ?_
    show Steps p.tables e below (T161.setTop (mkF m 11 #[.val (.ref r0), .val (.long (2305843009213693951 : Int64)), .second, .val (.int (61 : Int32))] [(.long (2305843009213693951 : Int64))])) _
    refine XS.lconst X161.here hx rfl (hb hby d1_11) ?_
    show Steps p.tables e below (T161.setTop (mkF m 12 #[.val (.ref r0), .val (.long (2305843009213693951 : Int64)), .second, .val (.int (61 : Int32))] [(.long (1 : Int64)), (.long (2305843009213693951 : Int64))])) _
    refine XS.iloadN X161.here hx rfl (hb hby d1_12) rfl ?_
    show Steps p.tables e below (T161.setTop (mkF m 13 #[.val (.ref r0), .val (.long (2305843009213693951 : Int64)), .second, .val (.int (61 : Int32))] [(.int (61 : Int32)), (.long (1 : Int64)), (.long (2305843009213693951 : Int64))])) _
    refine XS.lshl X161.here hx rfl (hb hby d1_13) rfl ?_
    show Steps p.tables e below (T161.setTop (mkF m 14 #[.val (.ref r0), .val (.long (2305843009213693951 : Int64)), .second, .val (.int (61 : Int32))] [(.long ((1 : Int64) <<< ((61 : Int32) &&& 0x3f).toInt64)), (.long (2305843009213693951 : Int64))])) _
    refine XS.lor X161.here hx rfl (hb hby d1_14) rfl ?_
    show Steps p.tables e below (T161.setTop (mkF m 15 #[.val (.ref r0), .val (.long (2305843009213693951 : Int64)), .second, .val (.int (61 : Int32))] [(.long ((2305843009213693951 : Int64) ||| ((1 : Int64) <<< ((61 : Int32) &&& 0x3f).toInt64)))])) _
    rw [show ((2305843009213693951 : Int64) ||| ((1 : Int64) <<< ((61 : Int32) &&& 0x3f).toInt64)) = (4611686018427387903 : Int64) from by decide +kernel]
    refine XS.lstoreN X161.here hx rfl (hb hby d1_15) rfl (l' := #[.val (.ref r0), .val (.long (4611686018427387903 : Int64)), .second, .val (.int (61 : Int32))]) rfl ?_
    show Steps p.tables e below (T161.setTop (mkF m 16 #[.val (.ref r0), .val (.long (4611686018427387903 : Int64)), .second, .val (.int (61 : Int32))] [])) _
    refine XS.iloadN X161.here hx rfl (hb hby d1_16) rfl ?_
    show Steps p.tables e below (T161.setTop (mkF m 17 #[.val (.ref r0), .val (.long (4611686018427387903 : Int64)), .second, .val (.int (61 : Int32))] [(.int (61 : Int32))])) _
    refine XS.aloadN X161.here hx rfl (hb hby d1_17) rfl rfl ?_
    show Steps p.tables e below (T161.setTop (mkF m 18 #[.val (.ref r0), .val (.long (4611686018427387903 : Int64)), .second, .val (.int (61 : Int32))] [(.ref r0), (.int (61 : Int32))])) _
    refine st162 _ ?_
    show Steps p.tables e below (T162.setTop (mkF m 21 #[.val (.ref r0), .val (.long (4611686018427387903 : Int64)), .second, .val (.int (61 : Int32))] [(.int (1 : Int32)), (.int (61 : Int32))])) _
    refine XS.iadd X162.here hx rfl (hb hby d1_21) rfl ?_
    show Steps p.tables e below (T162.setTop (mkF m 22 #[.val (.ref r0), .val (.long (4611686018427387903 : Int64)), .second, .val (.int (61 : Int32))] [(.int (62 : Int32))])) _
    refine XS.istoreN X162.here hx rfl (hb hby d1_22) rfl (l' := #[.val (.ref r0), .val (.long (4611686018427387903 : Int64)), .second, .val (.int (62 : Int32))]) rfl ?_
    show Steps p.tables e below (T162.setTop (mkF m 23 #[.val (.ref r0), .val (.long (4611686018427387903 : Int64)), .second, .val (.int (62 : Int32))] [])) _
    refine XS.goto X162.here hx rfl (pc0 := 23) (pc' := 4) rfl (hb hby d1_23) (by decide) (by decide) ?_
    show Steps p.tables e below (T162.setTop (mkF m 4 #[.val (.ref r0), .val (.long (4611686018427387903 : Int64)), .second, .val (.int (62 : Int32))] [])) _
    refine XS.iloadN X162.here hx rfl (hb hby d1_4) rfl ?_
    show Steps p.tables e below (T162.setTop (mkF m 5 #[.val (.ref r0), .val (.long (4611686018427387903 : Int64)), .second, .val (.int (62 : Int32))] [(.int (62 : Int32))])) _
    refine XS.bipush X162.here hx rfl (hb hby d1_5) ?_
    show Steps p.tables e below (T162.setTop (mkF m 7 #[.val (.ref r0), .val (.long (4611686018427387903 : Int64)), .second, .val (.int (62 : Int32))] [(.int (64 : Int32)), (.int (62 : Int32))])) _
    refine XS.icmpNo X162.here hx rfl (hb hby d1_7) rfl (tlt (by decide : (62 : Int32) < (64 : Int32))).2.1 ?_
    show Steps p.tables e below (T162.setTop (mkF m 10 #[.val (.ref r0), .val (.long (4611686018427387903 : Int64)), .second, .val (.int (62 : Int32))] [])) _
    refine XS.lloadN X162.here hx rfl (hb hby d1_10) rfl ?_
    show Steps p.tables e below (T162.setTop (mkF m 11 #[.val (.ref r0), .val (.long (4611686018427387903 : Int64)), .second, .val (.int (62 : Int32))] [(.long (4611686018427387903 : Int64))])) _
    refine XS.lconst X162.here hx rfl (hb hby d1_11) ?_
    show Steps p.tables e below (T162.setTop (mkF m 12 #[.val (.ref r0), .val (.long (4611686018427387903 : Int64)), .second, .val (.int (62 : Int32))] [(.long (1 : Int64)), (.long (4611686018427387903 : Int64))])) _
    refine XS.iloadN X162.here hx rfl (hb hby d1_12) rfl ?_
    show Steps p.tables e below (T162.setTop (mkF m 13 #[.val (.ref r0), .val (.long (4611686018427387903 : Int64)), .second, .val (.int (62 : Int32))] [(.int (62 : Int32)), (.long (1 : Int64)), (.long (4611686018427387903 : Int64))])) _
    refine XS.lshl X162.here hx rfl (hb hby d1_13) rfl ?_
    show Steps p.tables e below (T162.setTop (mkF m 14 #[.val (.ref r0), .val (.long (4611686018427387903 : Int64)), .second, .val (.int (62 : Int32))] [(.long ((1 : Int64) <<< ((62 : Int32) &&& 0x3f).toInt64)), (.long (4611686018427387903 : Int64))])) _
    refine XS.lor X162.here hx rfl (hb hby d1_14) rfl ?_
    show Steps p.tables e below (T162.setTop (mkF m 15 #[.val (.ref r0), .val (.long (4611686018427387903 : Int64)), .second, .val (.int (62 : Int32))] [(.long ((4611686018427387903 : Int64) ||| ((1 : Int64) <<< ((62 : Int32) &&& 0x3f).toInt64)))])) _
    rw [show ((4611686018427387903 : Int64) ||| ((1 : Int64) <<< ((62 : Int32) &&& 0x3f).toInt64)) = (9223372036854775807 : Int64) from by decide +kernel]
    refine XS.lstoreN X162.here hx rfl (hb hby d1_15) rfl (l' := #[.val (.ref r0), .val (.long (9223372036854775807 : Int64)), .second, .val (.int (62 : Int32))]) rfl ?_
    show Steps p.tables e below (T162.setTop (mkF m 16 #[.val (.ref r0), .val (.long (9223372036854775807 : Int64)), .second, .val (.int (62 : Int32))] [])) _
    refine XS.iloadN X162.here hx rfl (hb hby d1_16) rfl ?_
    show Steps p.tables e below (T162.setTop (mkF m 17 #[.val (.ref r0), .val (.long (9223372036854775807 : Int64)), .second, .val (.int (62 : Int32))] [(.int (62 : Int32))])) _
    refine XS.aloadN X162.here hx rfl (hb hby d1_17) rfl rfl ?_
    show Steps p.tables e below (T162.setTop (mkF m 18 #[.val (.ref r0), .val (.long (9223372036854775807 : Int64)), .second, .val (.int (62 : Int32))] [(.ref r0), (.int (62 : Int32))])) _
    refine st163 _ ?_
    show Steps p.tables e below (T163.setTop (mkF m 21 #[.val (.ref r0), .val (.long (9223372036854775807 : Int64)), .second, .val (.int (62 : Int32))] [(.int (1 : Int32)), (.int (62 : Int32))])) _
    refine XS.iadd X163.here hx rfl (hb hby d1_21) rfl ?_
    show Steps p.tables e below (T163.setTop (mkF m 22 #[.val (.ref r0), .val (.long (9223372036854775807 : Int64)), .second, .val (.int (62 : Int32))] [(.int (63 : Int32))])) _
    refine XS.istoreN X163.here hx rfl (hb hby d1_22) rfl (l' := #[.val (.ref r0), .val (.long (9223372036854775807 : Int64)), .second, .val (.int (63 : Int32))]) rfl ?_
    show Steps p.tables e below (T163.setTop (mkF m 23 #[.val (.ref r0), .val (.long (9223372036854775807 : Int64)), .second, .val (.int (63 : Int32))] [])) _
    refine XS.goto X163.here hx rfl (pc0 := 23) (pc' := 4) rfl (hb hby d1_23) (by decide) (by decide) ?_
    show Steps p.tables e below (T163.setTop (mkF m 4 #[.val (.ref r0), .val (.long (9223372036854775807 : Int64)), .second, .val (.int (63 : Int32))] [])) _
    refine XS.iloadN X163.here hx rfl (hb hby d1_4) rfl ?_
    show Steps p.tables e below (T163.setTop (mkF m 5 #[.val (.ref r0), .val (.long (9223372036854775807 : Int64)), .second, .val (.int (63 : Int32))] [(.int (63 : Int32))])) _
    refine XS.bipush X163.here hx rfl (hb hby d1_5) ?_
    show Steps p.tables e below (T163.setTop (mkF m 7 #[.val (.ref r0), .val (.long (9223372036854775807 : Int64)), .second, .val (.int (63 : Int32))] [(.int (64 : Int32)), (.int (63 : Int32))])) _
    refine XS.icmpNo X163.here hx rfl (hb hby d1_7) rfl (tlt (by decide : (63 : Int32) < (64 : Int32))).2.1 ?_
    show Steps p.tables e below (T163.setTop (mkF m 10 #[.val (.ref r0), .val (.long (9223372036854775807 : Int64)), .second, .val (.int (63 : Int32))] [])) _
    refine XS.lloadN X163.here hx rfl (hb hby d1_10) rfl ?_
    show Steps p.tables e below (T163.setTop (mkF m 11 #[.val (.ref r0), .val (.long (9223372036854775807 : Int64)), .second, .val (.int (63 : Int32))] [(.long (9223372036854775807 : Int64))])) _
    refine XS.lconst X163.here hx rfl (hb hby d1_11) ?_
    show Steps p.tables e below (T163.setTop (mkF m 12 #[.val (.ref r0), .val (.long (9223372036854775807 : Int64)), .second, .val (.int (63 : Int32))] [(.long (1 : Int64)), (.long (9223372036854775807 : Int64))])) _
    refine XS.iloadN X163.here hx rfl (hb hby d1_12) rfl ?_
    show Steps p.tables e below (T163.setTop (mkF m 13 #[.val (.ref r0), .val (.long (9223372036854775807 : Int64)), .second, .val (.int (63 : Int32))] [(.int (63 : Int32)), (.long (1 : Int64)), (.long (9223372036854775807 : Int64))])) _
    refine XS.lshl X163.here hx rfl (hb hby d1_13) rfl ?_
    show Steps p.tables e below (T163.setTop (mkF m 14 #[.val (.ref r0), .val (.long (9223372036854775807 : Int64)), .second, .val (.int (63 : Int32))] [(.long ((1 : Int64) <<< ((63 : Int32) &&& 0x3f).toInt64)), (.long (9223372036854775807 : Int64))])) _
    refine XS.lor X163.here hx rfl (hb hby d1_14) rfl ?_
    show Steps p.tables e below (T163.setTop (mkF m 15 #[.val (.ref r0), .val (.long (9223372036854775807 : Int64)), .second, .val (.int (63 : Int32))] [(.long ((9223372036854775807 : Int64) ||| ((1 : Int64) <<< ((63 : Int32) &&& 0x3f).toInt64)))])) _
    rw [show ((9223372036854775807 : Int64) ||| ((1 : Int64) <<< ((63 : Int32) &&& 0x3f).toInt64)) = (-1 : Int64) from by decide +kernel]
    refine XS.lstoreN X163.here hx rfl (hb hby d1_15) rfl (l' := #[.val (.ref r0), .val (.long (-1 : Int64)), .second, .val (.int (63 : Int32))]) rfl ?_
    show Steps p.tables e below (T163.setTop (mkF m 16 #[.val (.ref r0), .val (.long (-1 : Int64)), .second, .val (.int (63 : Int32))] [])) _
    refine XS.iloadN X163.here hx rfl (hb hby d1_16) rfl ?_
    show Steps p.tables e below (T163.setTop (mkF m 17 #[.val (.ref r0), .val (.long (-1 : Int64)), .second, .val (.int (63 : Int32))] [(.int (63 : Int32))])) _
    refine XS.aloadN X163.here hx rfl (hb hby d1_17) rfl rfl ?_
    show Steps p.tables e below (T163.setTop (mkF m 18 #[.val (.ref r0), .val (.long (-1 : Int64)), .second, .val (.int (63 : Int32))] [(.ref r0), (.int (63 : Int32))])) _
    refine st164 _ ?_
    show Steps p.tables e below (T164.setTop (mkF m 21 #[.val (.ref r0), .val (.long (-1 : Int64)), .second, .val (.int (63 : Int32))] [(.int (1 : Int32)), (.int (63 : Int32))])) _
    refine XS.iadd X164.here hx rfl (hb hby d1_21) rfl ?_
    show Steps p.tables e below (T164.setTop (mkF m 22 #[.val (.ref r0), .val (.long (-1 : Int64)), .second, .val (.int (63 : Int32))] [(.int (64 : Int32))])) _
    refine XS.istoreN X164.here hx rfl (hb hby d1_22) rfl (l' := #[.val (.ref r0), .val (.long (-1 : Int64)), .second, .val (.int (64 : Int32))]) rfl ?_
    show Steps p.tables e below (T164.setTop (mkF m 23 #[.val (.ref r0), .val (.long (-1 : Int64)), .second, .val (.int (64 : Int32))] [])) _
    refine XS.goto X164.here hx rfl (pc0 := 23) (pc' := 4) rfl (hb hby d1_23) (by decide) (by decide) ?_
    show Steps p.tables e below (T164.setTop (mkF m 4 #[.val (.ref r0), .val (.long (-1 : Int64)), .second, .val (.int (64 : Int32))] [])) _
    refine XS.iloadN X164.here hx rfl (hb hby d1_4) rfl ?_
    show Steps p.tables e below (T164.setTop (mkF m 5 #[.val (.ref r0), .val (.long (-1 : Int64)), .second, .val (.int (64 : Int32))] [(.int (64 : Int32))])) _
    refine XS.bipush X164.here hx rfl (hb hby d1_5) ?_
    show Steps p.tables e below (T164.setTop (mkF m 7 #[.val (.ref r0), .val (.long (-1 : Int64)), .second, .val (.int (64 : Int32))] [(.int (64 : Int32)), (.int (64 : Int32))])) _
    refine XS.icmpYes X164.here hx rfl (pc0 := 7) (pc' := 26) rfl (hb hby d1_7) rfl (flt (by decide : ¬ ((64 : Int32) < (64 : Int32)))).2.1 (by decide) (by decide) ?_
    show Steps p.tables e below (T164.setTop (mkF m 26 #[.val (.ref r0), .val (.long (-1 : Int64)), .second, .val (.int (64 : Int32))] [])) _
    refine XS.lloadN X164.here hx rfl (hb hby d1_26) rfl ?_
    exact kt
  refine own_go hgo165 ?_
  exact own_retJ X164 hx Bd.returns Bd.notSynchronized (hb hby d1_27) (by decide) (by decide) (by rw [e164]; exact ⟨(by rfl), N0, rfl⟩)
theorem ef_1b (m : MethodId) (r0 : Addr) : entryFrame m #[(.ref r0)] 4 = mkF m 0 #[.val (.ref r0), .unset, .unset, .unset] [] := by (first | (simp [entryFrame, mkF, argsToLocals, Value.category]; done) | rfl)
def Q1b (Z : State) (r0 : Addr) (h0 : Heap) (n0 : Nat) (v : Option Value) (h : Heap) (L : List Loc) : Prop := v = some (.long (281479271743489 : Int64)) ∧ Fr n0 L ∧ h = h0
set_option maxRecDepth 65536 in
set_option maxHeartbeats 40000000 in
theorem rm1b (l : Launch) (Z : State) (a0 : Array Value) (hw : ∀ d ∈ tables_1, d.before a0 Z = true) (ws : List Jvm.Cond) (r0 : Addr) (h0 : Heap) (n0 : Nat) (Z0 : n0 ≤ h0.size) (F_c : Fld Z h0 r0 "com/example/upper_falls/upperfalls/FilterKind" "cellBits" "I" (.int (16 : Int32))) :
    MetFree l (⟨"com/example/upper_falls/upperfalls/FilterKind", "lowestBitOfEachCell", "()J"⟩ : MethodName) (head1 (Jvm.Cond.code (⟨"com/example/upper_falls/upperfalls/FilterKind", "lowestBitOfEachCell", "()J"⟩ : MethodName) prog_11_method_12_code 4 (some .long) :: ws) ({ frames := 0, cells := 0, slots := 0, locals := 0 } : Room)) (fun a U => a = #[(.ref r0)] ∧ Z.Warmed39 U.vm ∧ U.heap = h0) (fun _ _ _ _ _ => True) (fun _ U o U' => ∃ v L, o = .returned v ∧ Q1b Z r0 h0 n0 v U'.heap L ∧ FrameEnd U o U' L ({ frames := 0, cells := 0, slots := 0, locals := 0 } : Room).cells ({ frames := 0, cells := 0, slots := 0, locals := 0 } : Room).slots) := by
  refine MetFree.of_bodySF (plainFor_of_name pn0) hisR ?_
  intro p e s m args below meth c s₁ Bd hml0 hP hK
  obtain ⟨rfl, hZ, hh⟩ := hP
  have hx := Bd.exec
  have hby := Bd.bytes
  have hml : c.maxLocals = 4 := hml0
  have hown : s.vm.findClass "com/example/upper_falls/upperfalls/FilterKind" = some m.cls := findClass_of_methodNamed Bd.named
  have hnm := (name_of_methodNamed Bd.named Bd.method).1
  have X0 : Stand p l e ({ frames := 0, cells := 0, slots := 0, locals := 0 } : Room) s m #[(.ref r0)] below meth c s₁ [] 0 0 := Stand.of_body Bd
  have e0 : s₁.heap = h0 := by rw [← hh, Bd.state]; rfl
  have N0 := Fr.nil n0
  have K0 : Keep h0 h0 [] := Keep.refl h0 _
  show own_Go p e below s (Q1b Z r0 h0 n0) ({ frames := 0, cells := 0, slots := 0, locals := 0 } : Room).cells ({ frames := 0, cells := 0, slots := 0, locals := 0 } : Room).slots (s₁.setTop (entryFrame m #[(.ref r0)] 4))
  refine own_go (fun t k => castTop (ef_1b m r0) k) ?_
  obtain ⟨T101, X101, e101, st101⟩ := getF X0 hx hZ hown (host := "") (Or.inl (hw _ (List.mem_of_getElem? (i := 9) rfl))) Via.refl e0 F_c (g := (mkF m 18 #[.val (.ref r0), .val (.long (1 : Int64)), .second, .val (.int (0 : Int32))] [(.ref r0), (.int (0 : Int32))])) rfl rfl (hb hby d1_18)
  obtain ⟨T102, X102, e102, st102⟩ := getF X101 hx hZ hown (host := "") (Or.inl (hw _ (List.mem_of_getElem? (i := 9) rfl))) Via.refl e101 F_c (g := (mkF m 18 #[.val (.ref r0), .val (.long (65537 : Int64)), .second, .val (.int (16 : Int32))] [(.ref r0), (.int (16 : Int32))])) rfl rfl (hb hby d1_18)
  obtain ⟨T103, X103, e103, st103⟩ := getF X102 hx hZ hown (host := "") (Or.inl (hw _ (List.mem_of_getElem? (i := 9) rfl))) Via.refl e102 F_c (g := (mkF m 18 #[.val (.ref r0), .val (.long (4295032833 : Int64)), .second, .val (.int (32 : Int32))] [(.ref r0), (.int (32 : Int32))])) rfl rfl (hb hby d1_18)
  obtain ⟨T104, X104, e104, st104⟩ := getF X103 hx hZ hown (host := "") (Or.inl (hw _ (List.mem_of_getElem? (i := 9) rfl))) Via.refl e103 F_c (g := (mkF m 18 #[.val (.ref r0), .val (.long (281479271743489 : Int64)), .second, .val (.int (48 : Int32))] [(.ref r0), (.int (48 : Int32))])) rfl rfl (hb hby d1_18)
  have hgo105 : ∀ t, Steps p.tables e below (T104.setTop (mkF m 27 #[.val (.ref r0), .val (.long (281479271743489 : Int64)), .second, .val (.int (64 : Int32))] [(.long (281479271743489 : Int64))])) t → Steps p.tables e below (s₁.setTop (mkF m 0 #[.val (.ref r0), .unset, .unset, .unset] [])) t := by
    intro t kt
    show Steps p.tables e below (s₁.setTop (mkF m 0 #[.val (.ref r0), .unset, .unset, .unset] [])) _
    refine XS.lconst X0.here hx rfl (hb hby d1_0) ?_
    show Steps p.tables e below (s₁.setTop (mkF m 1 #[.val (.ref r0), .unset, .unset, .unset] [(.long (0 : Int64))])) _
    refine XS.lstoreN X0.here hx rfl (hb hby d1_1) rfl (l' := #[.val (.ref r0), .val (.long (0 : Int64)), .second, .unset]) rfl ?_
    show Steps p.tables e below (s₁.setTop (mkF m 2 #[.val (.ref r0), .val (.long (0 : Int64)), .second, .unset] [])) _
    refine XS.iconst X0.here hx rfl (hb hby d1_2) ?_
    show Steps p.tables e below (s₁.setTop (mkF m 3 #[.val (.ref r0), .val (.long (0 : Int64)), .second, .unset] [(.int (0 : Int32))])) _
    refine XS.istoreN X0.here hx rfl (hb hby d1_3) rfl (l' := #[.val (.ref r0), .val (.long (0 : Int64)), .second, .val (.int (0 : Int32))]) rfl ?_
    show Steps p.tables e below (s₁.setTop (mkF m 4 #[.val (.ref r0), .val (.long (0 : Int64)), .second, .val (.int (0 : Int32))] [])) _
    refine XS.iloadN X0.here hx rfl (hb hby d1_4) rfl ?_
    show Steps p.tables e below (s₁.setTop (mkF m 5 #[.val (.ref r0), .val (.long (0 : Int64)), .second, .val (.int (0 : Int32))] [(.int (0 : Int32))])) _
    refine XS.bipush X0.here hx rfl (hb hby d1_5) ?_
    show Steps p.tables e below (s₁.setTop (mkF m 7 #[.val (.ref r0), .val (.long (0 : Int64)), .second, .val (.int (0 : Int32))] [(.int (64 : Int32)), (.int (0 : Int32))])) _
    refine XS.icmpNo X0.here hx rfl (hb hby d1_7) rfl (tlt (by decide : (0 : Int32) < (64 : Int32))).2.1 ?_
    show Steps p.tables e below (s₁.setTop (mkF m 10 #[.val (.ref r0), .val (.long (0 : Int64)), .second, .val (.int (0 : Int32))] [])) _
    refine XS.lloadN X0.here hx rfl (hb hby d1_10) rfl ?_
    show Steps p.tables e below (s₁.setTop (mkF m 11 #[.val (.ref r0), .val (.long (0 : Int64)), .second, .val (.int (0 : Int32))] [(.long (0 : Int64))])) _
    refine XS.lconst X0.here hx rfl (hb hby d1_11) ?_
    show Steps p.tables e below (s₁.setTop (mkF m 12 #[.val (.ref r0), .val (.long (0 : Int64)), .second, .val (.int (0 : Int32))] [(.long (1 : Int64)), (.long (0 : Int64))])) _
    refine XS.iloadN X0.here hx rfl (hb hby d1_12) rfl ?_
    show Steps p.tables e below (s₁.setTop (mkF m 13 #[.val (.ref r0), .val (.long (0 : Int64)), .second, .val (.int (0 : Int32))] [(.int (0 : Int32)), (.long (1 : Int64)), (.long (0 : Int64))])) _
    refine XS.lshl X0.here hx rfl (hb hby d1_13) rfl ?_
    show Steps p.tables e below (s₁.setTop (mkF m 14 #[.val (.ref r0), .val (.long (0 : Int64)), .second, .val (.int (0 : Int32))] [(.long ((1 : Int64) <<< ((0 : Int32) &&& 0x3f).toInt64)), (.long (0 : Int64))])) _
    refine XS.lor X0.here hx rfl (hb hby d1_14) rfl ?_
    show Steps p.tables e below (s₁.setTop (mkF m 15 #[.val (.ref r0), .val (.long (0 : Int64)), .second, .val (.int (0 : Int32))] [(.long ((0 : Int64) ||| ((1 : Int64) <<< ((0 : Int32) &&& 0x3f).toInt64)))])) _
    rw [show ((0 : Int64) ||| ((1 : Int64) <<< ((0 : Int32) &&& 0x3f).toInt64)) = (1 : Int64) from by decide +kernel]
    refine XS.lstoreN X0.here hx rfl (hb hby d1_15) rfl (l' := #[.val (.ref r0), .val (.long (1 : Int64)), .second, .val (.int (0 : Int32))]) rfl ?_
    show Steps p.tables e below (s₁.setTop (mkF m 16 #[.val (.ref r0), .val (.long (1 : Int64)), .second, .val (.int (0 : Int32))] [])) _
    refine XS.iloadN X0.here hx rfl (hb hby d1_16) rfl ?_
    show Steps p.tables e below (s₁.setTop (mkF m 17 #[.val (.ref r0), .val (.long (1 : Int64)), .second, .val (.int (0 : Int32))] [(.int (0 : Int32))])) _
    refine XS.aloadN X0.here hx rfl (hb hby d1_17) rfl rfl ?_
    show Steps p.tables e below (s₁.setTop (mkF m 18 #[.val (.ref r0), .val (.long (1 : Int64)), .second, .val (.int (0 : Int32))] [(.ref r0), (.int (0 : Int32))])) _
    refine st101 _ ?_
    show Steps p.tables e below (T101.setTop (mkF m 21 #[.val (.ref r0), .val (.long (1 : Int64)), .second, .val (.int (0 : Int32))] [(.int (16 : Int32)), (.int (0 : Int32))])) _
    refine XS.iadd X101.here hx rfl (hb hby d1_21) rfl ?_
    show Steps p.tables e below (T101.setTop (mkF m 22 #[.val (.ref r0), .val (.long (1 : Int64)), .second, .val (.int (0 : Int32))] [(.int (16 : Int32))])) _
    refine XS.istoreN X101.here hx rfl (hb hby d1_22) rfl (l' := #[.val (.ref r0), .val (.long (1 : Int64)), .second, .val (.int (16 : Int32))]) rfl ?_
    show Steps p.tables e below (T101.setTop (mkF m 23 #[.val (.ref r0), .val (.long (1 : Int64)), .second, .val (.int (16 : Int32))] [])) _
    refine XS.goto X101.here hx rfl (pc0 := 23) (pc' := 4) rfl (hb hby d1_23) (by decide) (by decide) ?_
    show Steps p.tables e below (T101.setTop (mkF m 4 #[.val (.ref r0), .val (.long (1 : Int64)), .second, .val (.int (16 : Int32))] [])) _
    refine XS.iloadN X101.here hx rfl (hb hby d1_4) rfl ?_
    show Steps p.tables e below (T101.setTop (mkF m 5 #[.val (.ref r0), .val (.long (1 : Int64)), .second, .val (.int (16 : Int32))] [(.int (16 : Int32))])) _
    refine XS.bipush X101.here hx rfl (hb hby d1_5) ?_
    show Steps p.tables e below (T101.setTop (mkF m 7 #[.val (.ref r0), .val (.long (1 : Int64)), .second, .val (.int (16 : Int32))] [(.int (64 : Int32)), (.int (16 : Int32))])) _
    refine XS.icmpNo X101.here hx rfl (hb hby d1_7) rfl (tlt (by decide : (16 : Int32) < (64 : Int32))).2.1 ?_
    show Steps p.tables e below (T101.setTop (mkF m 10 #[.val (.ref r0), .val (.long (1 : Int64)), .second, .val (.int (16 : Int32))] [])) _
    refine XS.lloadN X101.here hx rfl (hb hby d1_10) rfl ?_
    show Steps p.tables e below (T101.setTop (mkF m 11 #[.val (.ref r0), .val (.long (1 : Int64)), .second, .val (.int (16 : Int32))] [(.long (1 : Int64))])) _
    refine XS.lconst X101.here hx rfl (hb hby d1_11) ?_
    show Steps p.tables e below (T101.setTop (mkF m 12 #[.val (.ref r0), .val (.long (1 : Int64)), .second, .val (.int (16 : Int32))] [(.long (1 : Int64)), (.long (1 : Int64))])) _
    refine XS.iloadN X101.here hx rfl (hb hby d1_12) rfl ?_
    show Steps p.tables e below (T101.setTop (mkF m 13 #[.val (.ref r0), .val (.long (1 : Int64)), .second, .val (.int (16 : Int32))] [(.int (16 : Int32)), (.long (1 : Int64)), (.long (1 : Int64))])) _
    refine XS.lshl X101.here hx rfl (hb hby d1_13) rfl ?_
    show Steps p.tables e below (T101.setTop (mkF m 14 #[.val (.ref r0), .val (.long (1 : Int64)), .second, .val (.int (16 : Int32))] [(.long ((1 : Int64) <<< ((16 : Int32) &&& 0x3f).toInt64)), (.long (1 : Int64))])) _
    refine XS.lor X101.here hx rfl (hb hby d1_14) rfl ?_
    show Steps p.tables e below (T101.setTop (mkF m 15 #[.val (.ref r0), .val (.long (1 : Int64)), .second, .val (.int (16 : Int32))] [(.long ((1 : Int64) ||| ((1 : Int64) <<< ((16 : Int32) &&& 0x3f).toInt64)))])) _
    rw [show ((1 : Int64) ||| ((1 : Int64) <<< ((16 : Int32) &&& 0x3f).toInt64)) = (65537 : Int64) from by decide +kernel]
    refine XS.lstoreN X101.here hx rfl (hb hby d1_15) rfl (l' := #[.val (.ref r0), .val (.long (65537 : Int64)), .second, .val (.int (16 : Int32))]) rfl ?_
    show Steps p.tables e below (T101.setTop (mkF m 16 #[.val (.ref r0), .val (.long (65537 : Int64)), .second, .val (.int (16 : Int32))] [])) _
    refine XS.iloadN X101.here hx rfl (hb hby d1_16) rfl ?_
    show Steps p.tables e below (T101.setTop (mkF m 17 #[.val (.ref r0), .val (.long (65537 : Int64)), .second, .val (.int (16 : Int32))] [(.int (16 : Int32))])) _
    refine XS.aloadN X101.here hx rfl (hb hby d1_17) rfl rfl ?_
    show Steps p.tables e below (T101.setTop (mkF m 18 #[.val (.ref r0), .val (.long (65537 : Int64)), .second, .val (.int (16 : Int32))] [(.ref r0), (.int (16 : Int32))])) _
    refine st102 _ ?_
    show Steps p.tables e below (T102.setTop (mkF m 21 #[.val (.ref r0), .val (.long (65537 : Int64)), .second, .val (.int (16 : Int32))] [(.int (16 : Int32)), (.int (16 : Int32))])) _
    refine XS.iadd X102.here hx rfl (hb hby d1_21) rfl ?_
    show Steps p.tables e below (T102.setTop (mkF m 22 #[.val (.ref r0), .val (.long (65537 : Int64)), .second, .val (.int (16 : Int32))] [(.int (32 : Int32))])) _
    refine XS.istoreN X102.here hx rfl (hb hby d1_22) rfl (l' := #[.val (.ref r0), .val (.long (65537 : Int64)), .second, .val (.int (32 : Int32))]) rfl ?_
    show Steps p.tables e below (T102.setTop (mkF m 23 #[.val (.ref r0), .val (.long (65537 : Int64)), .second, .val (.int (32 : Int32))] [])) _
    refine XS.goto X102.here hx rfl (pc0 := 23) (pc' := 4) rfl (hb hby d1_23) (by decide) (by decide) ?_
    show Steps p.tables e below (T102.setTop (mkF m 4 #[.val (.ref r0), .val (.long (65537 : Int64)), .second, .val (.int (32 : Int32))] [])) _
    refine XS.iloadN X102.here hx rfl (hb hby d1_4) rfl ?_
    show Steps p.tables e below (T102.setTop (mkF m 5 #[.val (.ref r0), .val (.long (65537 : Int64)), .second, .val (.int (32 : Int32))] [(.int (32 : Int32))])) _
    refine XS.bipush X102.here hx rfl (hb hby d1_5) ?_
    show Steps p.tables e below (T102.setTop (mkF m 7 #[.val (.ref r0), .val (.long (65537 : Int64)), .second, .val (.int (32 : Int32))] [(.int (64 : Int32)), (.int (32 : Int32))])) _
    refine XS.icmpNo X102.here hx rfl (hb hby d1_7) rfl (tlt (by decide : (32 : Int32) < (64 : Int32))).2.1 ?_
    show Steps p.tables e below (T102.setTop (mkF m 10 #[.val (.ref r0), .val (.long (65537 : Int64)), .second, .val (.int (32 : Int32))] [])) _
    refine XS.lloadN X102.here hx rfl (hb hby d1_10) rfl ?_
    show Steps p.tables e below (T102.setTop (mkF m 11 #[.val (.ref r0), .val (.long (65537 : Int64)), .second, .val (.int (32 : Int32))] [(.long (65537 : Int64))])) _
    refine XS.lconst X102.here hx rfl (hb hby d1_11) ?_
    show Steps p.tables e below (T102.setTop (mkF m 12 #[.val (.ref r0), .val (.long (65537 : Int64)), .second, .val (.int (32 : Int32))] [(.long (1 : Int64)), (.long (65537 : Int64))])) _
    refine XS.iloadN X102.here hx rfl (hb hby d1_12) rfl ?_
    show Steps p.tables e below (T102.setTop (mkF m 13 #[.val (.ref r0), .val (.long (65537 : Int64)), .second, .val (.int (32 : Int32))] [(.int (32 : Int32)), (.long (1 : Int64)), (.long (65537 : Int64))])) _
    refine XS.lshl X102.here hx rfl (hb hby d1_13) rfl ?_
    show Steps p.tables e below (T102.setTop (mkF m 14 #[.val (.ref r0), .val (.long (65537 : Int64)), .second, .val (.int (32 : Int32))] [(.long ((1 : Int64) <<< ((32 : Int32) &&& 0x3f).toInt64)), (.long (65537 : Int64))])) _
    refine XS.lor X102.here hx rfl (hb hby d1_14) rfl ?_
    show Steps p.tables e below (T102.setTop (mkF m 15 #[.val (.ref r0), .val (.long (65537 : Int64)), .second, .val (.int (32 : Int32))] [(.long ((65537 : Int64) ||| ((1 : Int64) <<< ((32 : Int32) &&& 0x3f).toInt64)))])) _
    rw [show ((65537 : Int64) ||| ((1 : Int64) <<< ((32 : Int32) &&& 0x3f).toInt64)) = (4295032833 : Int64) from by decide +kernel]
    refine XS.lstoreN X102.here hx rfl (hb hby d1_15) rfl (l' := #[.val (.ref r0), .val (.long (4295032833 : Int64)), .second, .val (.int (32 : Int32))]) rfl ?_
    show Steps p.tables e below (T102.setTop (mkF m 16 #[.val (.ref r0), .val (.long (4295032833 : Int64)), .second, .val (.int (32 : Int32))] [])) _
    refine XS.iloadN X102.here hx rfl (hb hby d1_16) rfl ?_
    show Steps p.tables e below (T102.setTop (mkF m 17 #[.val (.ref r0), .val (.long (4295032833 : Int64)), .second, .val (.int (32 : Int32))] [(.int (32 : Int32))])) _
    refine XS.aloadN X102.here hx rfl (hb hby d1_17) rfl rfl ?_
    show Steps p.tables e below (T102.setTop (mkF m 18 #[.val (.ref r0), .val (.long (4295032833 : Int64)), .second, .val (.int (32 : Int32))] [(.ref r0), (.int (32 : Int32))])) _
    refine st103 _ ?_
    show Steps p.tables e below (T103.setTop (mkF m 21 #[.val (.ref r0), .val (.long (4295032833 : Int64)), .second, .val (.int (32 : Int32))] [(.int (16 : Int32)), (.int (32 : Int32))])) _
    refine XS.iadd X103.here hx rfl (hb hby d1_21) rfl ?_
    show Steps p.tables e below (T103.setTop (mkF m 22 #[.val (.ref r0), .val (.long (4295032833 : Int64)), .second, .val (.int (32 : Int32))] [(.int (48 : Int32))])) _
    refine XS.istoreN X103.here hx rfl (hb hby d1_22) rfl (l' := #[.val (.ref r0), .val (.long (4295032833 : Int64)), .second, .val (.int (48 : Int32))]) rfl ?_
    show Steps p.tables e below (T103.setTop (mkF m 23 #[.val (.ref r0), .val (.long (4295032833 : Int64)), .second, .val (.int (48 : Int32))] [])) _
    refine XS.goto X103.here hx rfl (pc0 := 23) (pc' := 4) rfl (hb hby d1_23) (by decide) (by decide) ?_
    show Steps p.tables e below (T103.setTop (mkF m 4 #[.val (.ref r0), .val (.long (4295032833 : Int64)), .second, .val (.int (48 : Int32))] [])) _
    refine XS.iloadN X103.here hx rfl (hb hby d1_4) rfl ?_
    show Steps p.tables e below (T103.setTop (mkF m 5 #[.val (.ref r0), .val (.long (4295032833 : Int64)), .second, .val (.int (48 : Int32))] [(.int (48 : Int32))])) _
    refine XS.bipush X103.here hx rfl (hb hby d1_5) ?_
    show Steps p.tables e below (T103.setTop (mkF m 7 #[.val (.ref r0), .val (.long (4295032833 : Int64)), .second, .val (.int (48 : Int32))] [(.int (64 : Int32)), (.int (48 : Int32))])) _
    refine XS.icmpNo X103.here hx rfl (hb hby d1_7) rfl (tlt (by decide : (48 : Int32) < (64 : Int32))).2.1 ?_
    show Steps p.tables e below (T103.setTop (mkF m 10 #[.val (.ref r0), .val (.long (4295032833 : Int64)), .second, .val (.int (48 : Int32))] [])) _
    refine XS.lloadN X103.here hx rfl (hb hby d1_10) rfl ?_
    show Steps p.tables e below (T103.setTop (mkF m 11 #[.val (.ref r0), .val (.long (4295032833 : Int64)), .second, .val (.int (48 : Int32))] [(.long (4295032833 : Int64))])) _
    refine XS.lconst X103.here hx rfl (hb hby d1_11) ?_
    show Steps p.tables e below (T103.setTop (mkF m 12 #[.val (.ref r0), .val (.long (4295032833 : Int64)), .second, .val (.int (48 : Int32))] [(.long (1 : Int64)), (.long (4295032833 : Int64))])) _
    refine XS.iloadN X103.here hx rfl (hb hby d1_12) rfl ?_
    show Steps p.tables e below (T103.setTop (mkF m 13 #[.val (.ref r0), .val (.long (4295032833 : Int64)), .second, .val (.int (48 : Int32))] [(.int (48 : Int32)), (.long (1 : Int64)), (.long (4295032833 : Int64))])) _
    refine XS.lshl X103.here hx rfl (hb hby d1_13) rfl ?_
    show Steps p.tables e below (T103.setTop (mkF m 14 #[.val (.ref r0), .val (.long (4295032833 : Int64)), .second, .val (.int (48 : Int32))] [(.long ((1 : Int64) <<< ((48 : Int32) &&& 0x3f).toInt64)), (.long (4295032833 : Int64))])) _
    refine XS.lor X103.here hx rfl (hb hby d1_14) rfl ?_
    show Steps p.tables e below (T103.setTop (mkF m 15 #[.val (.ref r0), .val (.long (4295032833 : Int64)), .second, .val (.int (48 : Int32))] [(.long ((4295032833 : Int64) ||| ((1 : Int64) <<< ((48 : Int32) &&& 0x3f).toInt64)))])) _
    rw [show ((4295032833 : Int64) ||| ((1 : Int64) <<< ((48 : Int32) &&& 0x3f).toInt64)) = (281479271743489 : Int64) from by decide +kernel]
    refine XS.lstoreN X103.here hx rfl (hb hby d1_15) rfl (l' := #[.val (.ref r0), .val (.long (281479271743489 : Int64)), .second, .val (.int (48 : Int32))]) rfl ?_
    show Steps p.tables e below (T103.setTop (mkF m 16 #[.val (.ref r0), .val (.long (281479271743489 : Int64)), .second, .val (.int (48 : Int32))] [])) _
    refine XS.iloadN X103.here hx rfl (hb hby d1_16) rfl ?_
    show Steps p.tables e below (T103.setTop (mkF m 17 #[.val (.ref r0), .val (.long (281479271743489 : Int64)), .second, .val (.int (48 : Int32))] [(.int (48 : Int32))])) _
    refine XS.aloadN X103.here hx rfl (hb hby d1_17) rfl rfl ?_
    show Steps p.tables e below (T103.setTop (mkF m 18 #[.val (.ref r0), .val (.long (281479271743489 : Int64)), .second, .val (.int (48 : Int32))] [(.ref r0), (.int (48 : Int32))])) _
    refine st104 _ ?_
    show Steps p.tables e below (T104.setTop (mkF m 21 #[.val (.ref r0), .val (.long (281479271743489 : Int64)), .second, .val (.int (48 : Int32))] [(.int (16 : Int32)), (.int (48 : Int32))])) _
    refine XS.iadd X104.here hx rfl (hb hby d1_21) rfl ?_
    show Steps p.tables e below (T104.setTop (mkF m 22 #[.val (.ref r0), .val (.long (281479271743489 : Int64)), .second, .val (.int (48 : Int32))] [(.int (64 : Int32))])) _
    refine XS.istoreN X104.here hx rfl (hb hby d1_22) rfl (l' := #[.val (.ref r0), .val (.long (281479271743489 : Int64)), .second, .val (.int (64 : Int32))]) rfl ?_
    show Steps p.tables e below (T104.setTop (mkF m 23 #[.val (.ref r0), .val (.long (281479271743489 : Int64)), .second, .val (.int (64 : Int32))] [])) _
    refine XS.goto X104.here hx rfl (pc0 := 23) (pc' := 4) rfl (hb hby d1_23) (by decide) (by decide) ?_
    show Steps p.tables e below (T104.setTop (mkF m 4 #[.val (.ref r0), .val (.long (281479271743489 : Int64)), .second, .val (.int (64 : Int32))] [])) _
    refine XS.iloadN X104.here hx rfl (hb hby d1_4) rfl ?_
    show Steps p.tables e below (T104.setTop (mkF m 5 #[.val (.ref r0), .val (.long (281479271743489 : Int64)), .second, .val (.int (64 : Int32))] [(.int (64 : Int32))])) _
    refine XS.bipush X104.here hx rfl (hb hby d1_5) ?_
    show Steps p.tables e below (T104.setTop (mkF m 7 #[.val (.ref r0), .val (.long (281479271743489 : Int64)), .second, .val (.int (64 : Int32))] [(.int (64 : Int32)), (.int (64 : Int32))])) _
    refine XS.icmpYes X104.here hx rfl (pc0 := 7) (pc' := 26) rfl (hb hby d1_7) rfl (flt (by decide : ¬ ((64 : Int32) < (64 : Int32)))).2.1 (by decide) (by decide) ?_
    show Steps p.tables e below (T104.setTop (mkF m 26 #[.val (.ref r0), .val (.long (281479271743489 : Int64)), .second, .val (.int (64 : Int32))] [])) _
    refine XS.lloadN X104.here hx rfl (hb hby d1_26) rfl ?_
    exact kt
  refine own_go hgo105 ?_
  exact own_retJ X104 hx Bd.returns Bd.notSynchronized (hb hby d1_27) (by decide) (by decide) (by rw [e104]; exact ⟨(by rfl), N0, rfl⟩)
theorem d2_0 : decode prog_11_method_9_code 0 = .ok (.aload_n 0, 1) := by decide +kernel
theorem d2_1 : decode prog_11_method_9_code 1 = .ok (.getfield 45, 3) := by decide +kernel
theorem d2_4 : decode prog_11_method_9_code 4 = .ok (.ireturn, 1) := by decide +kernel
theorem ef_2 (m : MethodId) (r0 : Addr) : entryFrame m #[(.ref r0)] 1 = mkF m 0 #[.val (.ref r0)] [] := by (first | (simp [entryFrame, mkF, argsToLocals, Value.category]; done) | rfl)
def Q2 (Z : State) (r0 : Addr) (w1 : Int32) (h0 : Heap) (n0 : Nat) (v : Option Value) (h : Heap) (L : List Loc) : Prop := v = some (.int w1) ∧ Fr n0 L ∧ h = h0
set_option maxRecDepth 65536 in
set_option maxHeartbeats 40000000 in
theorem rm2 (l : Launch) (Z : State) (a0 : Array Value) (hw : ∀ d ∈ tables_1, d.before a0 Z = true) (ws : List Jvm.Cond) (r0 : Addr) (w1 : Int32) (h0 : Heap) (n0 : Nat) (Z0 : n0 ≤ h0.size) (F_cellBits_r0 : Fld Z h0 r0 "com/example/upper_falls/upperfalls/FilterKind" "cellBits" "I" (.int w1)) :
    MetFree l (⟨"com/example/upper_falls/upperfalls/FilterKind", "cellBits", "()I"⟩ : MethodName) (head1 (Jvm.Cond.code (⟨"com/example/upper_falls/upperfalls/FilterKind", "cellBits", "()I"⟩ : MethodName) prog_11_method_9_code 1 (some .int) :: ws) ({ frames := 0, cells := 0, slots := 0, locals := 0 } : Room)) (fun a U => a = #[(.ref r0)] ∧ Z.Warmed39 U.vm ∧ U.heap = h0) (fun _ _ _ _ _ => True) (fun _ U o U' => ∃ v L, o = .returned v ∧ Q2 Z r0 w1 h0 n0 v U'.heap L ∧ FrameEnd U o U' L ({ frames := 0, cells := 0, slots := 0, locals := 0 } : Room).cells ({ frames := 0, cells := 0, slots := 0, locals := 0 } : Room).slots) := by
  refine MetFree.of_bodySF (plainFor_of_name pn0) hisR ?_
  intro p e s m args below meth c s₁ Bd hml0 hP hK
  obtain ⟨rfl, hZ, hh⟩ := hP
  have hx := Bd.exec
  have hby := Bd.bytes
  have hml : c.maxLocals = 1 := hml0
  have hown : s.vm.findClass "com/example/upper_falls/upperfalls/FilterKind" = some m.cls := findClass_of_methodNamed Bd.named
  have hnm := (name_of_methodNamed Bd.named Bd.method).1
  have X0 : Stand p l e ({ frames := 0, cells := 0, slots := 0, locals := 0 } : Room) s m #[(.ref r0)] below meth c s₁ [] 0 0 := Stand.of_body Bd
  have e0 : s₁.heap = h0 := by rw [← hh, Bd.state]; rfl
  have N0 := Fr.nil n0
  have K0 : Keep h0 h0 [] := Keep.refl h0 _
  show own_Go p e below s (Q2 Z r0 w1 h0 n0) ({ frames := 0, cells := 0, slots := 0, locals := 0 } : Room).cells ({ frames := 0, cells := 0, slots := 0, locals := 0 } : Room).slots (s₁.setTop (entryFrame m #[(.ref r0)] 1))
  refine own_go (fun t k => castTop (ef_2 m r0) k) ?_
  obtain ⟨T101, X101, e101, st101⟩ := getF X0 hx hZ hown (host := "") (Or.inl (hw _ (List.mem_of_getElem? (i := 9) rfl))) Via.refl e0 F_cellBits_r0 (g := (mkF m 1 #[.val (.ref r0)] [(.ref r0)])) rfl rfl (hb hby d2_1)
  have hgo102 : ∀ t, Steps p.tables e below (T101.setTop (mkF m 4 #[.val (.ref r0)] [(.int w1)])) t → Steps p.tables e below (s₁.setTop (mkF m 0 #[.val (.ref r0)] [])) t := by
    intro t kt
    show Steps p.tables e below (s₁.setTop (mkF m 0 #[.val (.ref r0)] [])) _
    refine XS.aloadN X0.here hx rfl (hb hby d2_0) rfl rfl ?_
    show Steps p.tables e below (s₁.setTop (mkF m 1 #[.val (.ref r0)] [(.ref r0)])) _
    refine st101 _ ?_
    exact kt
  refine own_go hgo102 ?_
  exact own_retI X101 hx Bd.returns Bd.notSynchronized (hb hby d2_4) (by decide) (by decide) (by rw [e101]; exact ⟨(by rfl), N0, rfl⟩)
theorem own_ti {x : Int32} (h : x.toBitVec.toNat < 2147483648) : x.toInt = (x.toBitVec.toNat : Int) := by
  show x.toBitVec.toInt = _
  rw [BitVec.toInt_eq_toNat_cond, if_pos (by omega)]
theorem own_tn {x : Int32} (h : 0 ≤ x.toInt) : x.toInt = (x.toBitVec.toNat : Int) ∧ x.toBitVec.toNat < 2147483648 := by
  have e : x.toInt = x.toBitVec.toInt := rfl
  have c := BitVec.toInt_eq_toNat_cond x.toBitVec
  have l := x.toBitVec.isLt
  rw [e] at h ⊢
  rw [c] at h ⊢
  split at h
  · rename_i q
    rw [if_pos q]; omega
  · omega
theorem own_andn (x y : Int32) : (x &&& y).toBitVec.toNat = x.toBitVec.toNat &&& y.toBitVec.toNat := by rw [Int32.toBitVec_and, BitVec.toNat_and]
theorem own_orn (x y : Int32) : (x ||| y).toBitVec.toNat = x.toBitVec.toNat ||| y.toBitVec.toNat := by rw [Int32.toBitVec_or, BitVec.toNat_or]
theorem own_shln {x k : Int32} {n : Nat} (hk : (k.toBitVec.smod 32).toNat = n) (h : x.toBitVec.toNat * 2 ^ n < 2 ^ 32) : (x <<< k).toBitVec.toNat = x.toBitVec.toNat * 2 ^ n := by
  rw [Int32.toBitVec_shiftLeft, BitVec.shiftLeft_eq', BitVec.toNat_shiftLeft, hk, Nat.shiftLeft_eq, Nat.mod_eq_of_lt h]
theorem own_mask {x m : Int32} {k : Nat} (hm : m.toBitVec.toNat = 2 ^ k - 1) : (x &&& m).toBitVec.toNat = x.toBitVec.toNat % 2 ^ k := by
  rw [own_andn, hm, Nat.and_two_pow_sub_one_eq_mod]
theorem own_oradd {a b k : Nat} (hb : b < 2 ^ k) : (a * 2 ^ k) ||| b = a * 2 ^ k + b := by
  rw [Nat.mul_comm, ← Nat.two_pow_add_eq_or_of_lt hb]
theorem own_63 (x : Int32) : ∃ k : Fin 64, (x &&& (63 : Int32)) = Int32.ofNat k.val := by
  have e := own_mask (x := x) (m := 63) (k := 6) rfl
  refine ⟨⟨x.toBitVec.toNat % 64, by omega⟩, Int32.toBitVec_inj.mp (BitVec.toNat_inj.mp ?_)⟩
  rw [e]
  show _ = (x.toBitVec.toNat % 64) % 2 ^ 32
  omega
theorem own_b1 : ∀ k : Fin 64, (if ((((-1 : Int64).toUInt64 >>> (Int32.ofNat k.val &&& 0x3f).toInt64.toUInt64).toInt64) &&& (1 : Int64)) = (0 : Int64) then (0 : Int32) else (1 : Int32)) = (if (Int32.ofNat k.val % (1 : Int32)) = (0 : Int32) then (1 : Int32) else (0 : Int32)) := by decide +kernel
theorem own_b16 : ∀ k : Fin 64, (if ((((281479271743489 : Int64).toUInt64 >>> (Int32.ofNat k.val &&& 0x3f).toInt64.toUInt64).toInt64) &&& (1 : Int64)) = (0 : Int64) then (0 : Int32) else (1 : Int32)) = (if (Int32.ofNat k.val % (16 : Int32)) = (0 : Int32) then (1 : Int32) else (0 : Int32)) := by decide +kernel
theorem pd1 : parseMethodDescriptor "()J" = some ⟨[], some .long⟩ := by decide +kernel
theorem pd2 : parseMethodDescriptor "()I" = some ⟨[], some .int⟩ := by decide +kernel
theorem ef_0 (m : MethodId) (p0 : Int32) (p1 : Int32) : entryFrame m #[(.int p0), (.int p1)] maxLocals = mkF m 0 #[.val (.int p0), .val (.int p1), .unset, .unset, .unset, .unset, .unset, .unset, .unset, .unset, .unset, .unset] [] := by (first | (simp [entryFrame, mkF, argsToLocals, Value.category, maxLocals]; done) | rfl)
set_option maxRecDepth 65536 in
theorem own_leaf0 {p0 p1 v1 v4 v6 v8 v11 v12 : Int32} {u_FilterKind_SEEN u_FilterKind_URL_LAYERS u_FilterKind_COUNTING : Addr} (hv1 : v1 = ((p0 &&& (2147483647 : Int32)) % (3 : Int32))) (hv4 : v4 = (p1 &&& (63 : Int32))) (hv6 : v6 = (if ((((-1 : Int64).toUInt64 >>> (v4 &&& 0x3f).toInt64.toUInt64).toInt64) &&& (1 : Int64)) = (0 : Int64) then (0 : Int32) else (1 : Int32))) (hv8 : v8 = (if (v4 % (1 : Int32)) = (0 : Int32) then (1 : Int32) else (0 : Int32))) (hv11 : v11 = (if (-1 : Int64) = (-1 : Int64) then (1 : Int32) else (0 : Int32))) (hv12 : v12 = (if v6 = v8 then v11 else (0 : Int32))) (hc8_2 : v1 = (0 : Int32)) : v12 = 1 := by
  obtain ⟨k, hk⟩ := own_63 p1
  rw [← hv4] at hk
  rw [hv12, if_pos (by rw [hv6, hv8, hk]; exact own_b1 k), hv11, if_pos rfl]
set_option maxRecDepth 65536 in
theorem own_leaf1 {p0 p1 v1 v14 v16 v18 v21 v22 : Int32} {u_FilterKind_SEEN u_FilterKind_URL_LAYERS u_FilterKind_COUNTING : Addr} (hv1 : v1 = ((p0 &&& (2147483647 : Int32)) % (3 : Int32))) (hv14 : v14 = (p1 &&& (63 : Int32))) (hv16 : v16 = (if ((((281479271743489 : Int64).toUInt64 >>> (v14 &&& 0x3f).toInt64.toUInt64).toInt64) &&& (1 : Int64)) = (0 : Int64) then (0 : Int32) else (1 : Int32))) (hv18 : v18 = (if (v14 % (16 : Int32)) = (0 : Int32) then (1 : Int32) else (0 : Int32))) (hv21 : v21 = (if (281479271743489 : Int64) = (281479271743489 : Int64) then (1 : Int32) else (0 : Int32))) (hv22 : v22 = (if v16 = v18 then v21 else (0 : Int32))) (hc8_2 : ¬ (v1 = (0 : Int32))) (hc19_13 : v1 = (1 : Int32)) : v22 = 1 := by
  obtain ⟨k, hk⟩ := own_63 p1
  rw [← hv14] at hk
  rw [hv22, if_pos (by rw [hv16, hv18, hk]; exact own_b16 k), hv21, if_pos rfl]
set_option maxRecDepth 65536 in
theorem own_leaf2 {p0 p1 v1 v23 v25 v27 v30 v31 : Int32} {u_FilterKind_SEEN u_FilterKind_URL_LAYERS u_FilterKind_COUNTING : Addr} (hv1 : v1 = ((p0 &&& (2147483647 : Int32)) % (3 : Int32))) (hv23 : v23 = (p1 &&& (63 : Int32))) (hv25 : v25 = (if ((((-1 : Int64).toUInt64 >>> (v23 &&& 0x3f).toInt64.toUInt64).toInt64) &&& (1 : Int64)) = (0 : Int64) then (0 : Int32) else (1 : Int32))) (hv27 : v27 = (if (v23 % (1 : Int32)) = (0 : Int32) then (1 : Int32) else (0 : Int32))) (hv30 : v30 = (if (-1 : Int64) = (-1 : Int64) then (1 : Int32) else (0 : Int32))) (hv31 : v31 = (if v25 = v27 then v30 else (0 : Int32))) (hc8_2 : ¬ (v1 = (0 : Int32))) (hc19_13 : ¬ (v1 = (1 : Int32))) : v31 = 1 := by
  obtain ⟨k, hk⟩ := own_63 p1
  rw [← hv23] at hk
  rw [hv31, if_pos (by rw [hv25, hv27, hk]; exact own_b1 k), hv30, if_pos rfl]
theorem pn3 : plainName "com/example/upper_falls/upperfalls/FilterKindLowestBitOfEachCellPinLaw" = true := by first | (simp [plainName, overriddenIn]; done) | decide +kernel
def Q0 (Z : State) (p0 : Int32) (p1 : Int32) (u_FilterKind_SEEN : Addr) (u_FilterKind_URL_LAYERS : Addr) (u_FilterKind_COUNTING : Addr) (h0 : Heap) (n0 : Nat) (v : Option Value) (h : Heap) (L : List Loc) : Prop := v = some (.int 1) ∧ Fr n0 L
set_option maxRecDepth 65536 in
set_option maxHeartbeats 40000000 in
theorem rm0 (l : Launch) (Z : State) (a0 : Array Value) (hw : ∀ d ∈ tables_1, d.before a0 Z = true) (ws : List Jvm.Cond) (p0 : Int32) (p1 : Int32) (u_FilterKind_SEEN : Addr) (u_FilterKind_URL_LAYERS : Addr) (u_FilterKind_COUNTING : Addr) (h0 : Heap) (n0 : Nat) (Z0 : n0 ≤ h0.size) (S_u_FilterKind_SEEN : Sta Z h0 "com/example/upper_falls/upperfalls/FilterKind" "SEEN" "Lcom/example/upper_falls/upperfalls/FilterKind;" (.ref u_FilterKind_SEEN)) (E_u_FilterKind_SEEN : Exa Z h0 u_FilterKind_SEEN "com/example/upper_falls/upperfalls/FilterKind") (S_u_FilterKind_URL_LAYERS : Sta Z h0 "com/example/upper_falls/upperfalls/FilterKind" "URL_LAYERS" "Lcom/example/upper_falls/upperfalls/FilterKind;" (.ref u_FilterKind_URL_LAYERS)) (E_u_FilterKind_URL_LAYERS : Exa Z h0 u_FilterKind_URL_LAYERS "com/example/upper_falls/upperfalls/FilterKind") (S_u_FilterKind_COUNTING : Sta Z h0 "com/example/upper_falls/upperfalls/FilterKind" "COUNTING" "Lcom/example/upper_falls/upperfalls/FilterKind;" (.ref u_FilterKind_COUNTING)) (E_u_FilterKind_COUNTING : Exa Z h0 u_FilterKind_COUNTING "com/example/upper_falls/upperfalls/FilterKind") (F_cellBits_u_FilterKind_SEEN : Fld Z h0 u_FilterKind_SEEN "com/example/upper_falls/upperfalls/FilterKind" "cellBits" "I" (.int (1 : Int32))) (F_cellBits_u_FilterKind_URL_LAYERS : Fld Z h0 u_FilterKind_URL_LAYERS "com/example/upper_falls/upperfalls/FilterKind" "cellBits" "I" (.int (1 : Int32))) (F_cellBits_u_FilterKind_COUNTING : Fld Z h0 u_FilterKind_COUNTING "com/example/upper_falls/upperfalls/FilterKind" "cellBits" "I" (.int (16 : Int32))) :
    MetFree l x (head1 (Jvm.Cond.code x code maxLocals ret :: ws) room_1) (fun a U => a = #[(.int p0), (.int p1)] ∧ Z.Warmed39 U.vm ∧ U.heap = h0) (fun _ _ _ _ _ => True) (fun _ U o U' => ∃ v L, o = .returned v ∧ Q0 Z p0 p1 u_FilterKind_SEEN u_FilterKind_URL_LAYERS u_FilterKind_COUNTING h0 n0 v U'.heap L ∧ FrameEnd U o U' L room_1.cells room_1.slots) := by
  refine MetFree.of_bodySF (plainFor_of_name pn3) hisR ?_
  intro p e s m args below meth c s₁ Bd hml0 hP hK
  obtain ⟨rfl, hZ, hh⟩ := hP
  have hx := Bd.exec
  have hby := Bd.bytes
  have hml : c.maxLocals = 12 := hml0
  have hown : s.vm.findClass "com/example/upper_falls/upperfalls/FilterKindLowestBitOfEachCellPinLaw" = some m.cls := findClass_of_methodNamed Bd.named
  have hnm := (name_of_methodNamed Bd.named Bd.method).1
  have X0 : Stand p l e room_1 s m #[(.int p0), (.int p1)] below meth c s₁ [] 0 0 := Stand.of_body Bd
  have e0 : s₁.heap = h0 := by rw [← hh, Bd.state]; rfl
  have N0 := Fr.nil n0
  have K0 : Keep h0 h0 [] := Keep.refl h0 _
  show own_Go p e below s (Q0 Z p0 p1 u_FilterKind_SEEN u_FilterKind_URL_LAYERS u_FilterKind_COUNTING h0 n0) room_1.cells room_1.slots (s₁.setTop (entryFrame m #[(.int p0), (.int p1)] maxLocals))
  refine own_go (fun t k => castTop (ef_0 m p0 p1) k) ?_
  have hnz5_101 : ¬ ((3 : Int32) = (0 : Int32)) := by decide
  obtain ⟨v1, hv1⟩ : ∃ z : Int32, z = ((p0 &&& (2147483647 : Int32)) % (3 : Int32)) := ⟨_, rfl⟩
  have hgo108 : ∀ t, Steps p.tables e below (s₁.setTop (mkF m 8 #[.val (.int p0), .val (.int p1), .val (.int v1), .unset, .unset, .unset, .unset, .unset, .unset, .unset, .unset, .unset] [(.int v1)])) t → Steps p.tables e below (s₁.setTop (mkF m 0 #[.val (.int p0), .val (.int p1), .unset, .unset, .unset, .unset, .unset, .unset, .unset, .unset, .unset, .unset] [])) t := by
    intro t kt
    show Steps p.tables e below (s₁.setTop (mkF m 0 #[.val (.int p0), .val (.int p1), .unset, .unset, .unset, .unset, .unset, .unset, .unset, .unset, .unset, .unset] [])) _
    refine XS.iloadN X0.here hx rfl (hb hby at_0) rfl ?_
    show Steps p.tables e below (s₁.setTop (mkF m 1 #[.val (.int p0), .val (.int p1), .unset, .unset, .unset, .unset, .unset, .unset, .unset, .unset, .unset, .unset] [(.int p0)])) _
    refine X0.ldcInt hx hown (mvT hZ (hw _ (List.mem_of_getElem? (i := 0) rfl))) (g := (mkF m 1 #[.val (.int p0), .val (.int p1), .unset, .unset, .unset, .unset, .unset, .unset, .unset, .unset, .unset, .unset] [(.int p0)])) rfl (hb hby at_1) _ ?_
    show Steps p.tables e below (s₁.setTop (mkF m 3 #[.val (.int p0), .val (.int p1), .unset, .unset, .unset, .unset, .unset, .unset, .unset, .unset, .unset, .unset] [(.int (2147483647 : Int32)), (.int p0)])) _
    refine XS.iand X0.here hx rfl (hb hby at_3) rfl ?_
    show Steps p.tables e below (s₁.setTop (mkF m 4 #[.val (.int p0), .val (.int p1), .unset, .unset, .unset, .unset, .unset, .unset, .unset, .unset, .unset, .unset] [(.int (p0 &&& (2147483647 : Int32)))])) _
    refine XS.iconst X0.here hx rfl (hb hby at_4) ?_
    show Steps p.tables e below (s₁.setTop (mkF m 5 #[.val (.int p0), .val (.int p1), .unset, .unset, .unset, .unset, .unset, .unset, .unset, .unset, .unset, .unset] [(.int (3 : Int32)), (.int (p0 &&& (2147483647 : Int32)))])) _
    refine XS.irem X0.here hx rfl (hb hby at_5) rfl hnz5_101 ?_
    rw [own_remI (p0 &&& (2147483647 : Int32)) (3 : Int32)]
    show Steps p.tables e below (s₁.setTop (mkF m 6 #[.val (.int p0), .val (.int p1), .unset, .unset, .unset, .unset, .unset, .unset, .unset, .unset, .unset, .unset] [(.int ((p0 &&& (2147483647 : Int32)) % (3 : Int32)))])) _
    rw [← hv1]
    show Steps p.tables e below (s₁.setTop (mkF m 6 #[.val (.int p0), .val (.int p1), .unset, .unset, .unset, .unset, .unset, .unset, .unset, .unset, .unset, .unset] [(.int v1)])) _
    refine XS.istoreN X0.here hx rfl (hb hby at_6) rfl (l' := #[.val (.int p0), .val (.int p1), .val (.int v1), .unset, .unset, .unset, .unset, .unset, .unset, .unset, .unset, .unset]) rfl ?_
    show Steps p.tables e below (s₁.setTop (mkF m 7 #[.val (.int p0), .val (.int p1), .val (.int v1), .unset, .unset, .unset, .unset, .unset, .unset, .unset, .unset, .unset] [])) _
    refine XS.iloadN X0.here hx rfl (hb hby at_7) rfl ?_
    exact kt
  refine own_go hgo108 ?_
  by_cases hc8_2 : v1 = (0 : Int32)
  · obtain ⟨T109, X109, e109, st109⟩ := getS2 X0 hx hZ hown (host := "") (Or.inl (hw _ (List.mem_of_getElem? (i := 1) rfl))) Via.refl e0 S_u_FilterKind_SEEN (g := (mkF m 11 #[.val (.int p0), .val (.int p1), .val (.int v1), .unset, .unset, .unset, .unset, .unset, .unset, .unset, .unset, .unset] [])) rfl (hb hby at_11)
    obtain ⟨cq110, kq110, q110a, q110b, q110c⟩ := isOf hZ e109 E_u_FilterKind_SEEN
    obtain ⟨_, _, ⟨T110, L110, k110, n110⟩, -, X110, ⟨Lc110, hQ110, l110, y110, z110⟩, st110⟩ := X109.virtualBack hx (y := (⟨"com/example/upper_falls/upperfalls/FilterKind", "lowestBitOfEachCell", "()J"⟩ : MethodName)) (z := (⟨"com/example/upper_falls/upperfalls/FilterKind", "lowestBitOfEachCell", "()J"⟩ : MethodName)) hown (mvT hZ (hw _ (List.mem_of_getElem? (i := 4) rfl))) (mvT hZ (hw _ (List.mem_of_getElem? (i := 5) rfl))) (notFace_of_selects (args := #[]) (mvT hZ (hw _ (List.mem_of_getElem? (i := 7) rfl)))) (mvT hZ (hw _ (List.mem_of_getElem? (i := 7) rfl))) (mvT hZ (hw _ (List.mem_of_getElem? (i := 6) rfl))) (by decide) (backOf (W := 0) (rm1a l Z a0 hw [] u_FilterKind_SEEN h0 n0 Z0 F_cellBits_u_FilterKind_SEEN) hZ (hw _ (List.mem_of_getElem? (i := 8) rfl)) (hw _ (List.mem_of_getElem? (i := 2) rfl)) (by decide) (by decide)) q110a q110c (g := (mkF m 33 #[.val (.int p0), .val (.int p1), .val (.int v1), .val (.ref u_FilterKind_SEEN), .unset, .unset, .unset, .unset, .unset, .unset, .unset, .unset] [(.ref u_FilterKind_SEEN)])) rfl (by rw [hml]; rfl) (Steps.refl _) (argsL := []) (rest := []) (lenOf pd1 rfl) rfl (by show 2 * 0 + _ ≤ _; exact Nat.le_of_eq rfl) (hb hby at_33) (fun _ _ => ⟨rfl, e109, (by decide : 0 + 0 ≤ _), (by decide : 0 + 0 ≤ _)⟩)
    dsimp only [Pt.U, Pt.locs, Pt.cells, Pt.slots] at X110 l110 y110 z110 st110 hQ110
    subst l110 y110 z110
    obtain ⟨rfl, N110q, e110⟩ := hQ110
    have N110 := Fr.app N0 N110q
    obtain ⟨cq111, kq111, q111a, q111b, q111c⟩ := isOf hZ e110 E_u_FilterKind_SEEN
    obtain ⟨_, _, ⟨T111, L111, k111, n111⟩, -, X111, ⟨Lc111, hQ111, l111, y111, z111⟩, st111⟩ := X110.virtualBack hx (y := (⟨"com/example/upper_falls/upperfalls/FilterKind", "cellBits", "()I"⟩ : MethodName)) (z := (⟨"com/example/upper_falls/upperfalls/FilterKind", "cellBits", "()I"⟩ : MethodName)) hown (mvT hZ (hw _ (List.mem_of_getElem? (i := 11) rfl))) (mvT hZ (hw _ (List.mem_of_getElem? (i := 12) rfl))) (notFace_of_selects (args := #[]) (mvT hZ (hw _ (List.mem_of_getElem? (i := 14) rfl)))) (mvT hZ (hw _ (List.mem_of_getElem? (i := 14) rfl))) (mvT hZ (hw _ (List.mem_of_getElem? (i := 13) rfl))) (by decide) (backOf (W := 0) (rm2 l Z a0 hw [] u_FilterKind_SEEN (1 : Int32) h0 n0 Z0 F_cellBits_u_FilterKind_SEEN) hZ (hw _ (List.mem_of_getElem? (i := 15) rfl)) (hw _ (List.mem_of_getElem? (i := 2) rfl)) (by decide) (by decide)) q111a q111c (g := (mkF m 39 #[.val (.int p0), .val (.int p1), .val (.int v1), .val (.ref u_FilterKind_SEEN), .val (.long (-1 : Int64)), .second, .unset, .unset, .unset, .unset, .unset, .unset] [(.ref u_FilterKind_SEEN)])) rfl (by rw [hml]; rfl) (Steps.refl _) (argsL := []) (rest := []) (lenOf pd2 rfl) rfl (by show 2 * 0 + _ ≤ _; exact Nat.le_of_eq rfl) (hb hby at_39) (fun _ _ => ⟨rfl, e110, (by decide : 0 + 0 ≤ _), (by decide : 0 + 0 ≤ _)⟩)
    dsimp only [Pt.U, Pt.locs, Pt.cells, Pt.slots] at X111 l111 y111 z111 st111 hQ111
    subst l111 y111 z111
    obtain ⟨rfl, N111q, e111⟩ := hQ111
    have N111 := Fr.app N110 N111q
    obtain ⟨v4, hv4⟩ : ∃ z : Int32, z = (p1 &&& (63 : Int32)) := ⟨_, rfl⟩
    obtain ⟨v6, hv6⟩ : ∃ z : Int32, z = (if ((((-1 : Int64).toUInt64 >>> (v4 &&& 0x3f).toInt64.toUInt64).toInt64) &&& (1 : Int64)) = (0 : Int64) then (0 : Int32) else (1 : Int32)) := ⟨_, rfl⟩
    obtain ⟨T114, lc114, X114, N114, e114, st114⟩ := own_mrg (n0 := n0) (h := h0) (g := (mkF m 67 #[.val (.int p0), .val (.int p1), .val (.int v1), .val (.ref u_FilterKind_SEEN), .val (.long (-1 : Int64)), .second, .val (.int (1 : Int32)), .val (.int v4), .unset, .unset, .unset, .unset] [(.int (lcmpW ((((-1 : Int64).toUInt64 >>> (v4 &&& 0x3f).toInt64.toUInt64).toInt64) &&& (1 : Int64)) (0 : Int64)))])) (g' := (mkF m 75 #[.val (.int p0), .val (.int p1), .val (.int v1), .val (.ref u_FilterKind_SEEN), .val (.long (-1 : Int64)), .second, .val (.int (1 : Int32)), .val (.int v4), .unset, .unset, .unset, .unset] [(.int v6)])) X111 (by
      by_cases hc67_5 : ((((-1 : Int64).toUInt64 >>> (v4 &&& 0x3f).toInt64.toUInt64).toInt64) &&& (1 : Int64)) = (0 : Int64)
      · have hgo112 : ∀ t, Steps p.tables e below (T111.setTop (mkF m 75 #[.val (.int p0), .val (.int p1), .val (.int v1), .val (.ref u_FilterKind_SEEN), .val (.long (-1 : Int64)), .second, .val (.int (1 : Int32)), .val (.int v4), .unset, .unset, .unset, .unset] [(.int (0 : Int32))])) t → Steps p.tables e below (T111.setTop (mkF m 67 #[.val (.int p0), .val (.int p1), .val (.int v1), .val (.ref u_FilterKind_SEEN), .val (.long (-1 : Int64)), .second, .val (.int (1 : Int32)), .val (.int v4), .unset, .unset, .unset, .unset] [(.int (lcmpW ((((-1 : Int64).toUInt64 >>> (v4 &&& 0x3f).toInt64.toUInt64).toInt64) &&& (1 : Int64)) (0 : Int64)))])) t := by
          intro t kt
          show Steps p.tables e below (T111.setTop (mkF m 67 #[.val (.int p0), .val (.int p1), .val (.int v1), .val (.ref u_FilterKind_SEEN), .val (.long (-1 : Int64)), .second, .val (.int (1 : Int32)), .val (.int v4), .unset, .unset, .unset, .unset] [(.int (lcmpW ((((-1 : Int64).toUInt64 >>> (v4 &&& 0x3f).toInt64.toUInt64).toInt64) &&& (1 : Int64)) (0 : Int64)))])) _
          refine XS.ifYes X111.here hx rfl (pc0 := 67) (pc' := 74) rfl (hb hby at_67) rfl ((if0 _ _).trans (teq (own_lc_eq hc67_5)).1) (by decide) (by decide) ?_
          show Steps p.tables e below (T111.setTop (mkF m 74 #[.val (.int p0), .val (.int p1), .val (.int v1), .val (.ref u_FilterKind_SEEN), .val (.long (-1 : Int64)), .second, .val (.int (1 : Int32)), .val (.int v4), .unset, .unset, .unset, .unset] [])) _
          refine XS.iconst X111.here hx rfl (hb hby at_74) ?_
          exact kt
        refine own_arm hgo112 ?_
        exact own_armEnd X111 N111 e111 (by rw [hv6.trans (if_pos hc67_5)])
      · have hgo113 : ∀ t, Steps p.tables e below (T111.setTop (mkF m 75 #[.val (.int p0), .val (.int p1), .val (.int v1), .val (.ref u_FilterKind_SEEN), .val (.long (-1 : Int64)), .second, .val (.int (1 : Int32)), .val (.int v4), .unset, .unset, .unset, .unset] [(.int (1 : Int32))])) t → Steps p.tables e below (T111.setTop (mkF m 67 #[.val (.int p0), .val (.int p1), .val (.int v1), .val (.ref u_FilterKind_SEEN), .val (.long (-1 : Int64)), .second, .val (.int (1 : Int32)), .val (.int v4), .unset, .unset, .unset, .unset] [(.int (lcmpW ((((-1 : Int64).toUInt64 >>> (v4 &&& 0x3f).toInt64.toUInt64).toInt64) &&& (1 : Int64)) (0 : Int64)))])) t := by
          intro t kt
          show Steps p.tables e below (T111.setTop (mkF m 67 #[.val (.int p0), .val (.int p1), .val (.int v1), .val (.ref u_FilterKind_SEEN), .val (.long (-1 : Int64)), .second, .val (.int (1 : Int32)), .val (.int v4), .unset, .unset, .unset, .unset] [(.int (lcmpW ((((-1 : Int64).toUInt64 >>> (v4 &&& 0x3f).toInt64.toUInt64).toInt64) &&& (1 : Int64)) (0 : Int64)))])) _
          refine XS.ifNo X111.here hx rfl (hb hby at_67) rfl ((if0 _ _).trans (feq (own_lc_neq hc67_5)).1) ?_
          show Steps p.tables e below (T111.setTop (mkF m 70 #[.val (.int p0), .val (.int p1), .val (.int v1), .val (.ref u_FilterKind_SEEN), .val (.long (-1 : Int64)), .second, .val (.int (1 : Int32)), .val (.int v4), .unset, .unset, .unset, .unset] [])) _
          refine XS.iconst X111.here hx rfl (hb hby at_70) ?_
          show Steps p.tables e below (T111.setTop (mkF m 71 #[.val (.int p0), .val (.int p1), .val (.int v1), .val (.ref u_FilterKind_SEEN), .val (.long (-1 : Int64)), .second, .val (.int (1 : Int32)), .val (.int v4), .unset, .unset, .unset, .unset] [(.int (1 : Int32))])) _
          refine XS.goto X111.here hx rfl (pc0 := 71) (pc' := 75) rfl (hb hby at_71) (by decide) (by decide) ?_
          exact kt
        refine own_arm hgo113 ?_
        exact own_armEnd X111 N111 e111 (by rw [hv6.trans (if_neg hc67_5)]))
    have hnz81_115 : ¬ ((1 : Int32) = (0 : Int32)) := by decide
    obtain ⟨v8, hv8⟩ : ∃ z : Int32, z = (if (v4 % (1 : Int32)) = (0 : Int32) then (1 : Int32) else (0 : Int32)) := ⟨_, rfl⟩
    obtain ⟨T118, lc118, X118, N118, e118, st118⟩ := own_mrg (n0 := n0) (h := h0) (g := (mkF m 82 #[.val (.int p0), .val (.int p1), .val (.int v1), .val (.ref u_FilterKind_SEEN), .val (.long (-1 : Int64)), .second, .val (.int (1 : Int32)), .val (.int v4), .val (.int v6), .unset, .unset, .unset] [(.int (v4 % (1 : Int32)))])) (g' := (mkF m 90 #[.val (.int p0), .val (.int p1), .val (.int v1), .val (.ref u_FilterKind_SEEN), .val (.long (-1 : Int64)), .second, .val (.int (1 : Int32)), .val (.int v4), .val (.int v6), .unset, .unset, .unset] [(.int v8)])) X114 (by
      by_cases hc82_7 : (v4 % (1 : Int32)) = (0 : Int32)
      · have hgo116 : ∀ t, Steps p.tables e below (T114.setTop (mkF m 90 #[.val (.int p0), .val (.int p1), .val (.int v1), .val (.ref u_FilterKind_SEEN), .val (.long (-1 : Int64)), .second, .val (.int (1 : Int32)), .val (.int v4), .val (.int v6), .unset, .unset, .unset] [(.int (1 : Int32))])) t → Steps p.tables e below (T114.setTop (mkF m 82 #[.val (.int p0), .val (.int p1), .val (.int v1), .val (.ref u_FilterKind_SEEN), .val (.long (-1 : Int64)), .second, .val (.int (1 : Int32)), .val (.int v4), .val (.int v6), .unset, .unset, .unset] [(.int (v4 % (1 : Int32)))])) t := by
          intro t kt
          show Steps p.tables e below (T114.setTop (mkF m 82 #[.val (.int p0), .val (.int p1), .val (.int v1), .val (.ref u_FilterKind_SEEN), .val (.long (-1 : Int64)), .second, .val (.int (1 : Int32)), .val (.int v4), .val (.int v6), .unset, .unset, .unset] [(.int (v4 % (1 : Int32)))])) _
          refine XS.ifNo X114.here hx rfl (hb hby at_82) rfl ((if0 _ _).trans (teq hc82_7).2) ?_
          show Steps p.tables e below (T114.setTop (mkF m 85 #[.val (.int p0), .val (.int p1), .val (.int v1), .val (.ref u_FilterKind_SEEN), .val (.long (-1 : Int64)), .second, .val (.int (1 : Int32)), .val (.int v4), .val (.int v6), .unset, .unset, .unset] [])) _
          refine XS.iconst X114.here hx rfl (hb hby at_85) ?_
          show Steps p.tables e below (T114.setTop (mkF m 86 #[.val (.int p0), .val (.int p1), .val (.int v1), .val (.ref u_FilterKind_SEEN), .val (.long (-1 : Int64)), .second, .val (.int (1 : Int32)), .val (.int v4), .val (.int v6), .unset, .unset, .unset] [(.int (1 : Int32))])) _
          refine XS.goto X114.here hx rfl (pc0 := 86) (pc' := 90) rfl (hb hby at_86) (by decide) (by decide) ?_
          exact kt
        refine own_arm hgo116 ?_
        exact own_armEnd X114 N114 e114 (by rw [hv8.trans (if_pos hc82_7)])
      · have hgo117 : ∀ t, Steps p.tables e below (T114.setTop (mkF m 90 #[.val (.int p0), .val (.int p1), .val (.int v1), .val (.ref u_FilterKind_SEEN), .val (.long (-1 : Int64)), .second, .val (.int (1 : Int32)), .val (.int v4), .val (.int v6), .unset, .unset, .unset] [(.int (0 : Int32))])) t → Steps p.tables e below (T114.setTop (mkF m 82 #[.val (.int p0), .val (.int p1), .val (.int v1), .val (.ref u_FilterKind_SEEN), .val (.long (-1 : Int64)), .second, .val (.int (1 : Int32)), .val (.int v4), .val (.int v6), .unset, .unset, .unset] [(.int (v4 % (1 : Int32)))])) t := by
          intro t kt
          show Steps p.tables e below (T114.setTop (mkF m 82 #[.val (.int p0), .val (.int p1), .val (.int v1), .val (.ref u_FilterKind_SEEN), .val (.long (-1 : Int64)), .second, .val (.int (1 : Int32)), .val (.int v4), .val (.int v6), .unset, .unset, .unset] [(.int (v4 % (1 : Int32)))])) _
          refine XS.ifYes X114.here hx rfl (pc0 := 82) (pc' := 89) rfl (hb hby at_82) rfl ((if0 _ _).trans (feq hc82_7).2) (by decide) (by decide) ?_
          show Steps p.tables e below (T114.setTop (mkF m 89 #[.val (.int p0), .val (.int p1), .val (.int v1), .val (.ref u_FilterKind_SEEN), .val (.long (-1 : Int64)), .second, .val (.int (1 : Int32)), .val (.int v4), .val (.int v6), .unset, .unset, .unset] [])) _
          refine XS.iconst X114.here hx rfl (hb hby at_89) ?_
          exact kt
        refine own_arm hgo117 ?_
        exact own_armEnd X114 N114 e114 (by rw [hv8.trans (if_neg hc82_7)]))
    obtain ⟨v11, hv11⟩ : ∃ z : Int32, z = (if (-1 : Int64) = (-1 : Int64) then (1 : Int32) else (0 : Int32)) := ⟨_, rfl⟩
    obtain ⟨v12, hv12⟩ : ∃ z : Int32, z = (if v6 = v8 then v11 else (0 : Int32)) := ⟨_, rfl⟩
    obtain ⟨T124, lc124, X124, N124, e124, st124⟩ := own_mrg (n0 := n0) (h := h0) (g := (mkF m 112 #[.val (.int p0), .val (.int p1), .val (.int v1), .val (.ref u_FilterKind_SEEN), .val (.long (-1 : Int64)), .second, .val (.int (1 : Int32)), .val (.int v4), .val (.int v6), .val (.int v8), .val (.long (-1 : Int64)), .second] [(.int v8), (.int v6)])) (g' := (mkF m 128 #[.val (.int p0), .val (.int p1), .val (.int v1), .val (.ref u_FilterKind_SEEN), .val (.long (-1 : Int64)), .second, .val (.int (1 : Int32)), .val (.int v4), .val (.int v6), .val (.int v8), .val (.long (-1 : Int64)), .second] [(.int v12)])) X118 (by
      by_cases hc112_9 : v6 = v8
      · obtain ⟨T121, lc121, X121, N121, e121, st121⟩ := own_mrg (n0 := n0) (h := h0) (g := (mkF m 120 #[.val (.int p0), .val (.int p1), .val (.int v1), .val (.ref u_FilterKind_SEEN), .val (.long (-1 : Int64)), .second, .val (.int (1 : Int32)), .val (.int v4), .val (.int v6), .val (.int v8), .val (.long (-1 : Int64)), .second] [(.int (lcmpW (-1 : Int64) (-1 : Int64)))])) (g' := (mkF m 128 #[.val (.int p0), .val (.int p1), .val (.int v1), .val (.ref u_FilterKind_SEEN), .val (.long (-1 : Int64)), .second, .val (.int (1 : Int32)), .val (.int v4), .val (.int v6), .val (.int v8), .val (.long (-1 : Int64)), .second] [(.int v11)])) X118 (by
          by_cases hc120_10 : (-1 : Int64) = (-1 : Int64)
          · have hgo119 : ∀ t, Steps p.tables e below (T118.setTop (mkF m 128 #[.val (.int p0), .val (.int p1), .val (.int v1), .val (.ref u_FilterKind_SEEN), .val (.long (-1 : Int64)), .second, .val (.int (1 : Int32)), .val (.int v4), .val (.int v6), .val (.int v8), .val (.long (-1 : Int64)), .second] [(.int (1 : Int32))])) t → Steps p.tables e below (T118.setTop (mkF m 120 #[.val (.int p0), .val (.int p1), .val (.int v1), .val (.ref u_FilterKind_SEEN), .val (.long (-1 : Int64)), .second, .val (.int (1 : Int32)), .val (.int v4), .val (.int v6), .val (.int v8), .val (.long (-1 : Int64)), .second] [(.int (lcmpW (-1 : Int64) (-1 : Int64)))])) t := by
              intro t kt
              show Steps p.tables e below (T118.setTop (mkF m 120 #[.val (.int p0), .val (.int p1), .val (.int v1), .val (.ref u_FilterKind_SEEN), .val (.long (-1 : Int64)), .second, .val (.int (1 : Int32)), .val (.int v4), .val (.int v6), .val (.int v8), .val (.long (-1 : Int64)), .second] [(.int (lcmpW (-1 : Int64) (-1 : Int64)))])) _
              refine XS.ifNo X118.here hx rfl (hb hby at_120) rfl ((if0 _ _).trans (teq (own_lc_eq hc120_10)).2) ?_
              show Steps p.tables e below (T118.setTop (mkF m 123 #[.val (.int p0), .val (.int p1), .val (.int v1), .val (.ref u_FilterKind_SEEN), .val (.long (-1 : Int64)), .second, .val (.int (1 : Int32)), .val (.int v4), .val (.int v6), .val (.int v8), .val (.long (-1 : Int64)), .second] [])) _
              refine XS.iconst X118.here hx rfl (hb hby at_123) ?_
              show Steps p.tables e below (T118.setTop (mkF m 124 #[.val (.int p0), .val (.int p1), .val (.int v1), .val (.ref u_FilterKind_SEEN), .val (.long (-1 : Int64)), .second, .val (.int (1 : Int32)), .val (.int v4), .val (.int v6), .val (.int v8), .val (.long (-1 : Int64)), .second] [(.int (1 : Int32))])) _
              refine XS.goto X118.here hx rfl (pc0 := 124) (pc' := 128) rfl (hb hby at_124) (by decide) (by decide) ?_
              exact kt
            refine own_arm hgo119 ?_
            exact own_armEnd X118 N118 e118 (by rw [hv11.trans (if_pos hc120_10)])
          · have hgo120 : ∀ t, Steps p.tables e below (T118.setTop (mkF m 128 #[.val (.int p0), .val (.int p1), .val (.int v1), .val (.ref u_FilterKind_SEEN), .val (.long (-1 : Int64)), .second, .val (.int (1 : Int32)), .val (.int v4), .val (.int v6), .val (.int v8), .val (.long (-1 : Int64)), .second] [(.int (0 : Int32))])) t → Steps p.tables e below (T118.setTop (mkF m 120 #[.val (.int p0), .val (.int p1), .val (.int v1), .val (.ref u_FilterKind_SEEN), .val (.long (-1 : Int64)), .second, .val (.int (1 : Int32)), .val (.int v4), .val (.int v6), .val (.int v8), .val (.long (-1 : Int64)), .second] [(.int (lcmpW (-1 : Int64) (-1 : Int64)))])) t := by
              intro t kt
              show Steps p.tables e below (T118.setTop (mkF m 120 #[.val (.int p0), .val (.int p1), .val (.int v1), .val (.ref u_FilterKind_SEEN), .val (.long (-1 : Int64)), .second, .val (.int (1 : Int32)), .val (.int v4), .val (.int v6), .val (.int v8), .val (.long (-1 : Int64)), .second] [(.int (lcmpW (-1 : Int64) (-1 : Int64)))])) _
              refine XS.ifYes X118.here hx rfl (pc0 := 120) (pc' := 127) rfl (hb hby at_120) rfl ((if0 _ _).trans (feq (own_lc_neq hc120_10)).2) (by decide) (by decide) ?_
              show Steps p.tables e below (T118.setTop (mkF m 127 #[.val (.int p0), .val (.int p1), .val (.int v1), .val (.ref u_FilterKind_SEEN), .val (.long (-1 : Int64)), .second, .val (.int (1 : Int32)), .val (.int v4), .val (.int v6), .val (.int v8), .val (.long (-1 : Int64)), .second] [])) _
              refine XS.iconst X118.here hx rfl (hb hby at_127) ?_
              exact kt
            refine own_arm hgo120 ?_
            exact own_armEnd X118 N118 e118 (by rw [hv11.trans (if_neg hc120_10)]))
        have hgo122 : ∀ t, Steps p.tables e below (T121.setTop (mkF m 128 #[.val (.int p0), .val (.int p1), .val (.int v1), .val (.ref u_FilterKind_SEEN), .val (.long (-1 : Int64)), .second, .val (.int (1 : Int32)), .val (.int v4), .val (.int v6), .val (.int v8), .val (.long (-1 : Int64)), .second] [(.int v11)])) t → Steps p.tables e below (T118.setTop (mkF m 112 #[.val (.int p0), .val (.int p1), .val (.int v1), .val (.ref u_FilterKind_SEEN), .val (.long (-1 : Int64)), .second, .val (.int (1 : Int32)), .val (.int v4), .val (.int v6), .val (.int v8), .val (.long (-1 : Int64)), .second] [(.int v8), (.int v6)])) t := by
          intro t kt
          show Steps p.tables e below (T118.setTop (mkF m 112 #[.val (.int p0), .val (.int p1), .val (.int v1), .val (.ref u_FilterKind_SEEN), .val (.long (-1 : Int64)), .second, .val (.int (1 : Int32)), .val (.int v4), .val (.int v6), .val (.int v8), .val (.long (-1 : Int64)), .second] [(.int v8), (.int v6)])) _
          refine XS.icmpNo X118.here hx rfl (hb hby at_112) rfl (teq hc112_9).2 ?_
          show Steps p.tables e below (T118.setTop (mkF m 115 #[.val (.int p0), .val (.int p1), .val (.int v1), .val (.ref u_FilterKind_SEEN), .val (.long (-1 : Int64)), .second, .val (.int (1 : Int32)), .val (.int v4), .val (.int v6), .val (.int v8), .val (.long (-1 : Int64)), .second] [])) _
          refine XS.lload X118.here hx rfl (hb hby at_115) rfl ?_
          show Steps p.tables e below (T118.setTop (mkF m 117 #[.val (.int p0), .val (.int p1), .val (.int v1), .val (.ref u_FilterKind_SEEN), .val (.long (-1 : Int64)), .second, .val (.int (1 : Int32)), .val (.int v4), .val (.int v6), .val (.int v8), .val (.long (-1 : Int64)), .second] [(.long (-1 : Int64))])) _
          refine XS.lload X118.here hx rfl (hb hby at_117) rfl ?_
          show Steps p.tables e below (T118.setTop (mkF m 119 #[.val (.int p0), .val (.int p1), .val (.int v1), .val (.ref u_FilterKind_SEEN), .val (.long (-1 : Int64)), .second, .val (.int (1 : Int32)), .val (.int v4), .val (.int v6), .val (.int v8), .val (.long (-1 : Int64)), .second] [(.long (-1 : Int64)), (.long (-1 : Int64))])) _
          refine XS.lcmp X118.here hx rfl (hb hby at_119) rfl ?_
          show Steps p.tables e below (T118.setTop (mkF m 120 #[.val (.int p0), .val (.int p1), .val (.int v1), .val (.ref u_FilterKind_SEEN), .val (.long (-1 : Int64)), .second, .val (.int (1 : Int32)), .val (.int v4), .val (.int v6), .val (.int v8), .val (.long (-1 : Int64)), .second] [(.int (lcmpW (-1 : Int64) (-1 : Int64)))])) _
          refine st121 _ ?_
          exact kt
        refine own_arm hgo122 ?_
        exact own_armEnd X121 N121 e121 (by rw [hv12.trans (if_pos hc112_9)])
      · have hgo123 : ∀ t, Steps p.tables e below (T118.setTop (mkF m 128 #[.val (.int p0), .val (.int p1), .val (.int v1), .val (.ref u_FilterKind_SEEN), .val (.long (-1 : Int64)), .second, .val (.int (1 : Int32)), .val (.int v4), .val (.int v6), .val (.int v8), .val (.long (-1 : Int64)), .second] [(.int (0 : Int32))])) t → Steps p.tables e below (T118.setTop (mkF m 112 #[.val (.int p0), .val (.int p1), .val (.int v1), .val (.ref u_FilterKind_SEEN), .val (.long (-1 : Int64)), .second, .val (.int (1 : Int32)), .val (.int v4), .val (.int v6), .val (.int v8), .val (.long (-1 : Int64)), .second] [(.int v8), (.int v6)])) t := by
          intro t kt
          show Steps p.tables e below (T118.setTop (mkF m 112 #[.val (.int p0), .val (.int p1), .val (.int v1), .val (.ref u_FilterKind_SEEN), .val (.long (-1 : Int64)), .second, .val (.int (1 : Int32)), .val (.int v4), .val (.int v6), .val (.int v8), .val (.long (-1 : Int64)), .second] [(.int v8), (.int v6)])) _
          refine XS.icmpYes X118.here hx rfl (pc0 := 112) (pc' := 127) rfl (hb hby at_112) rfl (feq hc112_9).2 (by decide) (by decide) ?_
          show Steps p.tables e below (T118.setTop (mkF m 127 #[.val (.int p0), .val (.int p1), .val (.int v1), .val (.ref u_FilterKind_SEEN), .val (.long (-1 : Int64)), .second, .val (.int (1 : Int32)), .val (.int v4), .val (.int v6), .val (.int v8), .val (.long (-1 : Int64)), .second] [])) _
          refine XS.iconst X118.here hx rfl (hb hby at_127) ?_
          exact kt
        refine own_arm hgo123 ?_
        exact own_armEnd X118 N118 e118 (by rw [hv12.trans (if_neg hc112_9)]))
    have hgo125 : ∀ t, Steps p.tables e below (T124.setTop (mkF m 128 #[.val (.int p0), .val (.int p1), .val (.int v1), .val (.ref u_FilterKind_SEEN), .val (.long (-1 : Int64)), .second, .val (.int (1 : Int32)), .val (.int v4), .val (.int v6), .val (.int v8), .val (.long (-1 : Int64)), .second] [(.int v12)])) t → Steps p.tables e below (s₁.setTop (mkF m 8 #[.val (.int p0), .val (.int p1), .val (.int v1), .unset, .unset, .unset, .unset, .unset, .unset, .unset, .unset, .unset] [(.int v1)])) t := by
      intro t kt
      show Steps p.tables e below (s₁.setTop (mkF m 8 #[.val (.int p0), .val (.int p1), .val (.int v1), .unset, .unset, .unset, .unset, .unset, .unset, .unset, .unset, .unset] [(.int v1)])) _
      refine XS.ifNo X0.here hx rfl (hb hby at_8) rfl ((if0 _ _).trans (teq hc8_2).2) ?_
      show Steps p.tables e below (s₁.setTop (mkF m 11 #[.val (.int p0), .val (.int p1), .val (.int v1), .unset, .unset, .unset, .unset, .unset, .unset, .unset, .unset, .unset] [])) _
      refine st109 _ ?_
      show Steps p.tables e below (T109.setTop (mkF m 14 #[.val (.int p0), .val (.int p1), .val (.int v1), .unset, .unset, .unset, .unset, .unset, .unset, .unset, .unset, .unset] [(.ref u_FilterKind_SEEN)])) _
      refine XS.goto X109.here hx rfl (pc0 := 14) (pc' := 31) rfl (hb hby at_14) (by decide) (by decide) ?_
      show Steps p.tables e below (T109.setTop (mkF m 31 #[.val (.int p0), .val (.int p1), .val (.int v1), .unset, .unset, .unset, .unset, .unset, .unset, .unset, .unset, .unset] [(.ref u_FilterKind_SEEN)])) _
      refine XS.astoreN X109.here hx rfl (hb hby at_31) rfl rfl (l' := #[.val (.int p0), .val (.int p1), .val (.int v1), .val (.ref u_FilterKind_SEEN), .unset, .unset, .unset, .unset, .unset, .unset, .unset, .unset]) rfl ?_
      show Steps p.tables e below (T109.setTop (mkF m 32 #[.val (.int p0), .val (.int p1), .val (.int v1), .val (.ref u_FilterKind_SEEN), .unset, .unset, .unset, .unset, .unset, .unset, .unset, .unset] [])) _
      refine XS.aloadN X109.here hx rfl (hb hby at_32) rfl rfl ?_
      show Steps p.tables e below (T109.setTop (mkF m 33 #[.val (.int p0), .val (.int p1), .val (.int v1), .val (.ref u_FilterKind_SEEN), .unset, .unset, .unset, .unset, .unset, .unset, .unset, .unset] [(.ref u_FilterKind_SEEN)])) _
      refine st110.trans ?_
      show Steps p.tables e below (T110.setTop (mkF m 36 #[.val (.int p0), .val (.int p1), .val (.int v1), .val (.ref u_FilterKind_SEEN), .unset, .unset, .unset, .unset, .unset, .unset, .unset, .unset] [(.long (-1 : Int64))])) _
      refine XS.lstore X110.here hx rfl (hb hby at_36) rfl (l' := #[.val (.int p0), .val (.int p1), .val (.int v1), .val (.ref u_FilterKind_SEEN), .val (.long (-1 : Int64)), .second, .unset, .unset, .unset, .unset, .unset, .unset]) rfl ?_
      show Steps p.tables e below (T110.setTop (mkF m 38 #[.val (.int p0), .val (.int p1), .val (.int v1), .val (.ref u_FilterKind_SEEN), .val (.long (-1 : Int64)), .second, .unset, .unset, .unset, .unset, .unset, .unset] [])) _
      refine XS.aloadN X110.here hx rfl (hb hby at_38) rfl rfl ?_
      show Steps p.tables e below (T110.setTop (mkF m 39 #[.val (.int p0), .val (.int p1), .val (.int v1), .val (.ref u_FilterKind_SEEN), .val (.long (-1 : Int64)), .second, .unset, .unset, .unset, .unset, .unset, .unset] [(.ref u_FilterKind_SEEN)])) _
      refine st111.trans ?_
      show Steps p.tables e below (T111.setTop (mkF m 42 #[.val (.int p0), .val (.int p1), .val (.int v1), .val (.ref u_FilterKind_SEEN), .val (.long (-1 : Int64)), .second, .unset, .unset, .unset, .unset, .unset, .unset] [(.int (1 : Int32))])) _
      refine XS.istore X111.here hx rfl (hb hby at_42) rfl (l' := #[.val (.int p0), .val (.int p1), .val (.int v1), .val (.ref u_FilterKind_SEEN), .val (.long (-1 : Int64)), .second, .val (.int (1 : Int32)), .unset, .unset, .unset, .unset, .unset]) rfl ?_
      show Steps p.tables e below (T111.setTop (mkF m 44 #[.val (.int p0), .val (.int p1), .val (.int v1), .val (.ref u_FilterKind_SEEN), .val (.long (-1 : Int64)), .second, .val (.int (1 : Int32)), .unset, .unset, .unset, .unset, .unset] [])) _
      refine XS.iload X111.here hx rfl (hb hby at_44) rfl ?_
      show Steps p.tables e below (T111.setTop (mkF m 46 #[.val (.int p0), .val (.int p1), .val (.int v1), .val (.ref u_FilterKind_SEEN), .val (.long (-1 : Int64)), .second, .val (.int (1 : Int32)), .unset, .unset, .unset, .unset, .unset] [(.int (1 : Int32))])) _
      refine XS.iconst X111.here hx rfl (hb hby at_46) ?_
      show Steps p.tables e below (T111.setTop (mkF m 47 #[.val (.int p0), .val (.int p1), .val (.int v1), .val (.ref u_FilterKind_SEEN), .val (.long (-1 : Int64)), .second, .val (.int (1 : Int32)), .unset, .unset, .unset, .unset, .unset] [(.int (1 : Int32)), (.int (1 : Int32))])) _
      refine XS.icmpYes X111.here hx rfl (pc0 := 47) (pc' := 52) rfl (hb hby at_47) rfl (flt (by decide : ¬ ((1 : Int32) < (1 : Int32)))).2.1 (by decide) (by decide) ?_
      show Steps p.tables e below (T111.setTop (mkF m 52 #[.val (.int p0), .val (.int p1), .val (.int v1), .val (.ref u_FilterKind_SEEN), .val (.long (-1 : Int64)), .second, .val (.int (1 : Int32)), .unset, .unset, .unset, .unset, .unset] [])) _
      refine XS.iloadN X111.here hx rfl (hb hby at_52) rfl ?_
      show Steps p.tables e below (T111.setTop (mkF m 53 #[.val (.int p0), .val (.int p1), .val (.int v1), .val (.ref u_FilterKind_SEEN), .val (.long (-1 : Int64)), .second, .val (.int (1 : Int32)), .unset, .unset, .unset, .unset, .unset] [(.int p1)])) _
      refine XS.bipush X111.here hx rfl (hb hby at_53) ?_
      show Steps p.tables e below (T111.setTop (mkF m 55 #[.val (.int p0), .val (.int p1), .val (.int v1), .val (.ref u_FilterKind_SEEN), .val (.long (-1 : Int64)), .second, .val (.int (1 : Int32)), .unset, .unset, .unset, .unset, .unset] [(.int (63 : Int32)), (.int p1)])) _
      refine XS.iand X111.here hx rfl (hb hby at_55) rfl ?_
      show Steps p.tables e below (T111.setTop (mkF m 56 #[.val (.int p0), .val (.int p1), .val (.int v1), .val (.ref u_FilterKind_SEEN), .val (.long (-1 : Int64)), .second, .val (.int (1 : Int32)), .unset, .unset, .unset, .unset, .unset] [(.int (p1 &&& (63 : Int32)))])) _
      rw [← hv4]
      show Steps p.tables e below (T111.setTop (mkF m 56 #[.val (.int p0), .val (.int p1), .val (.int v1), .val (.ref u_FilterKind_SEEN), .val (.long (-1 : Int64)), .second, .val (.int (1 : Int32)), .unset, .unset, .unset, .unset, .unset] [(.int v4)])) _
      refine XS.istore X111.here hx rfl (hb hby at_56) rfl (l' := #[.val (.int p0), .val (.int p1), .val (.int v1), .val (.ref u_FilterKind_SEEN), .val (.long (-1 : Int64)), .second, .val (.int (1 : Int32)), .val (.int v4), .unset, .unset, .unset, .unset]) rfl ?_
      show Steps p.tables e below (T111.setTop (mkF m 58 #[.val (.int p0), .val (.int p1), .val (.int v1), .val (.ref u_FilterKind_SEEN), .val (.long (-1 : Int64)), .second, .val (.int (1 : Int32)), .val (.int v4), .unset, .unset, .unset, .unset] [])) _
      refine XS.lload X111.here hx rfl (hb hby at_58) rfl ?_
      show Steps p.tables e below (T111.setTop (mkF m 60 #[.val (.int p0), .val (.int p1), .val (.int v1), .val (.ref u_FilterKind_SEEN), .val (.long (-1 : Int64)), .second, .val (.int (1 : Int32)), .val (.int v4), .unset, .unset, .unset, .unset] [(.long (-1 : Int64))])) _
      refine XS.iload X111.here hx rfl (hb hby at_60) rfl ?_
      show Steps p.tables e below (T111.setTop (mkF m 62 #[.val (.int p0), .val (.int p1), .val (.int v1), .val (.ref u_FilterKind_SEEN), .val (.long (-1 : Int64)), .second, .val (.int (1 : Int32)), .val (.int v4), .unset, .unset, .unset, .unset] [(.int v4), (.long (-1 : Int64))])) _
      refine XS.lushr X111.here hx rfl (hb hby at_62) rfl ?_
      show Steps p.tables e below (T111.setTop (mkF m 63 #[.val (.int p0), .val (.int p1), .val (.int v1), .val (.ref u_FilterKind_SEEN), .val (.long (-1 : Int64)), .second, .val (.int (1 : Int32)), .val (.int v4), .unset, .unset, .unset, .unset] [(.long (((-1 : Int64).toUInt64 >>> (v4 &&& 0x3f).toInt64.toUInt64).toInt64))])) _
      refine XS.lconst X111.here hx rfl (hb hby at_63) ?_
      show Steps p.tables e below (T111.setTop (mkF m 64 #[.val (.int p0), .val (.int p1), .val (.int v1), .val (.ref u_FilterKind_SEEN), .val (.long (-1 : Int64)), .second, .val (.int (1 : Int32)), .val (.int v4), .unset, .unset, .unset, .unset] [(.long (1 : Int64)), (.long (((-1 : Int64).toUInt64 >>> (v4 &&& 0x3f).toInt64.toUInt64).toInt64))])) _
      refine XS.land X111.here hx rfl (hb hby at_64) rfl ?_
      show Steps p.tables e below (T111.setTop (mkF m 65 #[.val (.int p0), .val (.int p1), .val (.int v1), .val (.ref u_FilterKind_SEEN), .val (.long (-1 : Int64)), .second, .val (.int (1 : Int32)), .val (.int v4), .unset, .unset, .unset, .unset] [(.long ((((-1 : Int64).toUInt64 >>> (v4 &&& 0x3f).toInt64.toUInt64).toInt64) &&& (1 : Int64)))])) _
      refine XS.lconst X111.here hx rfl (hb hby at_65) ?_
      show Steps p.tables e below (T111.setTop (mkF m 66 #[.val (.int p0), .val (.int p1), .val (.int v1), .val (.ref u_FilterKind_SEEN), .val (.long (-1 : Int64)), .second, .val (.int (1 : Int32)), .val (.int v4), .unset, .unset, .unset, .unset] [(.long (0 : Int64)), (.long ((((-1 : Int64).toUInt64 >>> (v4 &&& 0x3f).toInt64.toUInt64).toInt64) &&& (1 : Int64)))])) _
      refine XS.lcmp X111.here hx rfl (hb hby at_66) rfl ?_
      show Steps p.tables e below (T111.setTop (mkF m 67 #[.val (.int p0), .val (.int p1), .val (.int v1), .val (.ref u_FilterKind_SEEN), .val (.long (-1 : Int64)), .second, .val (.int (1 : Int32)), .val (.int v4), .unset, .unset, .unset, .unset] [(.int (lcmpW ((((-1 : Int64).toUInt64 >>> (v4 &&& 0x3f).toInt64.toUInt64).toInt64) &&& (1 : Int64)) (0 : Int64)))])) _
      refine st114 _ ?_
      show Steps p.tables e below (T114.setTop (mkF m 75 #[.val (.int p0), .val (.int p1), .val (.int v1), .val (.ref u_FilterKind_SEEN), .val (.long (-1 : Int64)), .second, .val (.int (1 : Int32)), .val (.int v4), .unset, .unset, .unset, .unset] [(.int v6)])) _
      refine XS.istore X114.here hx rfl (hb hby at_75) rfl (l' := #[.val (.int p0), .val (.int p1), .val (.int v1), .val (.ref u_FilterKind_SEEN), .val (.long (-1 : Int64)), .second, .val (.int (1 : Int32)), .val (.int v4), .val (.int v6), .unset, .unset, .unset]) rfl ?_
      show Steps p.tables e below (T114.setTop (mkF m 77 #[.val (.int p0), .val (.int p1), .val (.int v1), .val (.ref u_FilterKind_SEEN), .val (.long (-1 : Int64)), .second, .val (.int (1 : Int32)), .val (.int v4), .val (.int v6), .unset, .unset, .unset] [])) _
      refine XS.iload X114.here hx rfl (hb hby at_77) rfl ?_
      show Steps p.tables e below (T114.setTop (mkF m 79 #[.val (.int p0), .val (.int p1), .val (.int v1), .val (.ref u_FilterKind_SEEN), .val (.long (-1 : Int64)), .second, .val (.int (1 : Int32)), .val (.int v4), .val (.int v6), .unset, .unset, .unset] [(.int v4)])) _
      refine XS.iload X114.here hx rfl (hb hby at_79) rfl ?_
      show Steps p.tables e below (T114.setTop (mkF m 81 #[.val (.int p0), .val (.int p1), .val (.int v1), .val (.ref u_FilterKind_SEEN), .val (.long (-1 : Int64)), .second, .val (.int (1 : Int32)), .val (.int v4), .val (.int v6), .unset, .unset, .unset] [(.int (1 : Int32)), (.int v4)])) _
      refine XS.irem X114.here hx rfl (hb hby at_81) rfl hnz81_115 ?_
      rw [own_remI v4 (1 : Int32)]
      show Steps p.tables e below (T114.setTop (mkF m 82 #[.val (.int p0), .val (.int p1), .val (.int v1), .val (.ref u_FilterKind_SEEN), .val (.long (-1 : Int64)), .second, .val (.int (1 : Int32)), .val (.int v4), .val (.int v6), .unset, .unset, .unset] [(.int (v4 % (1 : Int32)))])) _
      refine st118 _ ?_
      show Steps p.tables e below (T118.setTop (mkF m 90 #[.val (.int p0), .val (.int p1), .val (.int v1), .val (.ref u_FilterKind_SEEN), .val (.long (-1 : Int64)), .second, .val (.int (1 : Int32)), .val (.int v4), .val (.int v6), .unset, .unset, .unset] [(.int v8)])) _
      refine XS.istore X118.here hx rfl (hb hby at_90) rfl (l' := #[.val (.int p0), .val (.int p1), .val (.int v1), .val (.ref u_FilterKind_SEEN), .val (.long (-1 : Int64)), .second, .val (.int (1 : Int32)), .val (.int v4), .val (.int v6), .val (.int v8), .unset, .unset]) rfl ?_
      show Steps p.tables e below (T118.setTop (mkF m 92 #[.val (.int p0), .val (.int p1), .val (.int v1), .val (.ref u_FilterKind_SEEN), .val (.long (-1 : Int64)), .second, .val (.int (1 : Int32)), .val (.int v4), .val (.int v6), .val (.int v8), .unset, .unset] [])) _
      refine XS.iloadN X118.here hx rfl (hb hby at_92) rfl ?_
      show Steps p.tables e below (T118.setTop (mkF m 93 #[.val (.int p0), .val (.int p1), .val (.int v1), .val (.ref u_FilterKind_SEEN), .val (.long (-1 : Int64)), .second, .val (.int (1 : Int32)), .val (.int v4), .val (.int v6), .val (.int v8), .unset, .unset] [(.int v1)])) _
      refine XS.iconst X118.here hx rfl (hb hby at_93) ?_
      show Steps p.tables e below (T118.setTop (mkF m 94 #[.val (.int p0), .val (.int p1), .val (.int v1), .val (.ref u_FilterKind_SEEN), .val (.long (-1 : Int64)), .second, .val (.int (1 : Int32)), .val (.int v4), .val (.int v6), .val (.int v8), .unset, .unset] [(.int (1 : Int32)), (.int v1)])) _
      refine XS.icmpYes X118.here hx rfl (pc0 := 94) (pc' := 103) rfl (hb hby at_94) rfl (feq (by have y0 := hc8_2; simp only [Int32.lt_iff_toInt_lt, ← Int32.toInt_inj, Int32.reduceToInt] at y0 ⊢; omega : ¬ (v1 = (1 : Int32)))).2 (by decide) (by decide) ?_
      show Steps p.tables e below (T118.setTop (mkF m 103 #[.val (.int p0), .val (.int p1), .val (.int v1), .val (.ref u_FilterKind_SEEN), .val (.long (-1 : Int64)), .second, .val (.int (1 : Int32)), .val (.int v4), .val (.int v6), .val (.int v8), .unset, .unset] [])) _
      refine X118.ldc2Long hx hown (mvT hZ (hw _ (List.mem_of_getElem? (i := 16) rfl))) (g := (mkF m 103 #[.val (.int p0), .val (.int p1), .val (.int v1), .val (.ref u_FilterKind_SEEN), .val (.long (-1 : Int64)), .second, .val (.int (1 : Int32)), .val (.int v4), .val (.int v6), .val (.int v8), .unset, .unset] [])) rfl (hb hby at_103) _ ?_
      show Steps p.tables e below (T118.setTop (mkF m 106 #[.val (.int p0), .val (.int p1), .val (.int v1), .val (.ref u_FilterKind_SEEN), .val (.long (-1 : Int64)), .second, .val (.int (1 : Int32)), .val (.int v4), .val (.int v6), .val (.int v8), .unset, .unset] [(.long (-1 : Int64))])) _
      refine XS.lstore X118.here hx rfl (hb hby at_106) rfl (l' := #[.val (.int p0), .val (.int p1), .val (.int v1), .val (.ref u_FilterKind_SEEN), .val (.long (-1 : Int64)), .second, .val (.int (1 : Int32)), .val (.int v4), .val (.int v6), .val (.int v8), .val (.long (-1 : Int64)), .second]) rfl ?_
      show Steps p.tables e below (T118.setTop (mkF m 108 #[.val (.int p0), .val (.int p1), .val (.int v1), .val (.ref u_FilterKind_SEEN), .val (.long (-1 : Int64)), .second, .val (.int (1 : Int32)), .val (.int v4), .val (.int v6), .val (.int v8), .val (.long (-1 : Int64)), .second] [])) _
      refine XS.iload X118.here hx rfl (hb hby at_108) rfl ?_
      show Steps p.tables e below (T118.setTop (mkF m 110 #[.val (.int p0), .val (.int p1), .val (.int v1), .val (.ref u_FilterKind_SEEN), .val (.long (-1 : Int64)), .second, .val (.int (1 : Int32)), .val (.int v4), .val (.int v6), .val (.int v8), .val (.long (-1 : Int64)), .second] [(.int v6)])) _
      refine XS.iload X118.here hx rfl (hb hby at_110) rfl ?_
      show Steps p.tables e below (T118.setTop (mkF m 112 #[.val (.int p0), .val (.int p1), .val (.int v1), .val (.ref u_FilterKind_SEEN), .val (.long (-1 : Int64)), .second, .val (.int (1 : Int32)), .val (.int v4), .val (.int v6), .val (.int v8), .val (.long (-1 : Int64)), .second] [(.int v8), (.int v6)])) _
      refine st124 _ ?_
      exact kt
    refine own_go hgo125 ?_
    have hz126 : v12 = 1 := own_leaf0 (p0 := p0) (p1 := p1) (u_FilterKind_SEEN := u_FilterKind_SEEN) (u_FilterKind_URL_LAYERS := u_FilterKind_URL_LAYERS) (u_FilterKind_COUNTING := u_FilterKind_COUNTING) hv1 hv4 hv6 hv8 hv11 hv12 hc8_2
    exact own_retZ X124 hx Bd.returns Bd.notSynchronized (hb hby at_128) (by decide) (by decide) (Or.inr hz126) ⟨by rw [hz126], N124⟩
  · have hgo131 : ∀ t, Steps p.tables e below (s₁.setTop (mkF m 19 #[.val (.int p0), .val (.int p1), .val (.int v1), .unset, .unset, .unset, .unset, .unset, .unset, .unset, .unset, .unset] [(.int (1 : Int32)), (.int v1)])) t → Steps p.tables e below (s₁.setTop (mkF m 8 #[.val (.int p0), .val (.int p1), .val (.int v1), .unset, .unset, .unset, .unset, .unset, .unset, .unset, .unset, .unset] [(.int v1)])) t := by
      intro t kt
      show Steps p.tables e below (s₁.setTop (mkF m 8 #[.val (.int p0), .val (.int p1), .val (.int v1), .unset, .unset, .unset, .unset, .unset, .unset, .unset, .unset, .unset] [(.int v1)])) _
      refine XS.ifYes X0.here hx rfl (pc0 := 8) (pc' := 17) rfl (hb hby at_8) rfl ((if0 _ _).trans (feq hc8_2).2) (by decide) (by decide) ?_
      show Steps p.tables e below (s₁.setTop (mkF m 17 #[.val (.int p0), .val (.int p1), .val (.int v1), .unset, .unset, .unset, .unset, .unset, .unset, .unset, .unset, .unset] [])) _
      refine XS.iloadN X0.here hx rfl (hb hby at_17) rfl ?_
      show Steps p.tables e below (s₁.setTop (mkF m 18 #[.val (.int p0), .val (.int p1), .val (.int v1), .unset, .unset, .unset, .unset, .unset, .unset, .unset, .unset, .unset] [(.int v1)])) _
      refine XS.iconst X0.here hx rfl (hb hby at_18) ?_
      exact kt
    refine own_go hgo131 ?_
    by_cases hc19_13 : v1 = (1 : Int32)
    · obtain ⟨T132, X132, e132, st132⟩ := getS2 X0 hx hZ hown (host := "") (Or.inl (hw _ (List.mem_of_getElem? (i := 19) rfl))) Via.refl e0 S_u_FilterKind_COUNTING (g := (mkF m 22 #[.val (.int p0), .val (.int p1), .val (.int v1), .unset, .unset, .unset, .unset, .unset, .unset, .unset, .unset, .unset] [])) rfl (hb hby at_22)
      obtain ⟨cq133, kq133, q133a, q133b, q133c⟩ := isOf hZ e132 E_u_FilterKind_COUNTING
      obtain ⟨_, _, ⟨T133, L133, k133, n133⟩, -, X133, ⟨Lc133, hQ133, l133, y133, z133⟩, st133⟩ := X132.virtualBack hx (y := (⟨"com/example/upper_falls/upperfalls/FilterKind", "lowestBitOfEachCell", "()J"⟩ : MethodName)) (z := (⟨"com/example/upper_falls/upperfalls/FilterKind", "lowestBitOfEachCell", "()J"⟩ : MethodName)) hown (mvT hZ (hw _ (List.mem_of_getElem? (i := 4) rfl))) (mvT hZ (hw _ (List.mem_of_getElem? (i := 5) rfl))) (notFace_of_selects (args := #[]) (mvT hZ (hw _ (List.mem_of_getElem? (i := 7) rfl)))) (mvT hZ (hw _ (List.mem_of_getElem? (i := 7) rfl))) (mvT hZ (hw _ (List.mem_of_getElem? (i := 6) rfl))) (by decide) (backOf (W := 0) (rm1b l Z a0 hw [] u_FilterKind_COUNTING h0 n0 Z0 F_cellBits_u_FilterKind_COUNTING) hZ (hw _ (List.mem_of_getElem? (i := 8) rfl)) (hw _ (List.mem_of_getElem? (i := 2) rfl)) (by decide) (by decide)) q133a q133c (g := (mkF m 33 #[.val (.int p0), .val (.int p1), .val (.int v1), .val (.ref u_FilterKind_COUNTING), .unset, .unset, .unset, .unset, .unset, .unset, .unset, .unset] [(.ref u_FilterKind_COUNTING)])) rfl (by rw [hml]; rfl) (Steps.refl _) (argsL := []) (rest := []) (lenOf pd1 rfl) rfl (by show 2 * 0 + _ ≤ _; exact Nat.le_of_eq rfl) (hb hby at_33) (fun _ _ => ⟨rfl, e132, (by decide : 0 + 0 ≤ _), (by decide : 0 + 0 ≤ _)⟩)
      dsimp only [Pt.U, Pt.locs, Pt.cells, Pt.slots] at X133 l133 y133 z133 st133 hQ133
      subst l133 y133 z133
      obtain ⟨rfl, N133q, e133⟩ := hQ133
      have N133 := Fr.app N0 N133q
      obtain ⟨cq134, kq134, q134a, q134b, q134c⟩ := isOf hZ e133 E_u_FilterKind_COUNTING
      obtain ⟨_, _, ⟨T134, L134, k134, n134⟩, -, X134, ⟨Lc134, hQ134, l134, y134, z134⟩, st134⟩ := X133.virtualBack hx (y := (⟨"com/example/upper_falls/upperfalls/FilterKind", "cellBits", "()I"⟩ : MethodName)) (z := (⟨"com/example/upper_falls/upperfalls/FilterKind", "cellBits", "()I"⟩ : MethodName)) hown (mvT hZ (hw _ (List.mem_of_getElem? (i := 11) rfl))) (mvT hZ (hw _ (List.mem_of_getElem? (i := 12) rfl))) (notFace_of_selects (args := #[]) (mvT hZ (hw _ (List.mem_of_getElem? (i := 14) rfl)))) (mvT hZ (hw _ (List.mem_of_getElem? (i := 14) rfl))) (mvT hZ (hw _ (List.mem_of_getElem? (i := 13) rfl))) (by decide) (backOf (W := 0) (rm2 l Z a0 hw [] u_FilterKind_COUNTING (16 : Int32) h0 n0 Z0 F_cellBits_u_FilterKind_COUNTING) hZ (hw _ (List.mem_of_getElem? (i := 15) rfl)) (hw _ (List.mem_of_getElem? (i := 2) rfl)) (by decide) (by decide)) q134a q134c (g := (mkF m 39 #[.val (.int p0), .val (.int p1), .val (.int v1), .val (.ref u_FilterKind_COUNTING), .val (.long (281479271743489 : Int64)), .second, .unset, .unset, .unset, .unset, .unset, .unset] [(.ref u_FilterKind_COUNTING)])) rfl (by rw [hml]; rfl) (Steps.refl _) (argsL := []) (rest := []) (lenOf pd2 rfl) rfl (by show 2 * 0 + _ ≤ _; exact Nat.le_of_eq rfl) (hb hby at_39) (fun _ _ => ⟨rfl, e133, (by decide : 0 + 0 ≤ _), (by decide : 0 + 0 ≤ _)⟩)
      dsimp only [Pt.U, Pt.locs, Pt.cells, Pt.slots] at X134 l134 y134 z134 st134 hQ134
      subst l134 y134 z134
      obtain ⟨rfl, N134q, e134⟩ := hQ134
      have N134 := Fr.app N133 N134q
      obtain ⟨v14, hv14⟩ : ∃ z : Int32, z = (p1 &&& (63 : Int32)) := ⟨_, rfl⟩
      obtain ⟨v16, hv16⟩ : ∃ z : Int32, z = (if ((((281479271743489 : Int64).toUInt64 >>> (v14 &&& 0x3f).toInt64.toUInt64).toInt64) &&& (1 : Int64)) = (0 : Int64) then (0 : Int32) else (1 : Int32)) := ⟨_, rfl⟩
      obtain ⟨T137, lc137, X137, N137, e137, st137⟩ := own_mrg (n0 := n0) (h := h0) (g := (mkF m 67 #[.val (.int p0), .val (.int p1), .val (.int v1), .val (.ref u_FilterKind_COUNTING), .val (.long (281479271743489 : Int64)), .second, .val (.int (16 : Int32)), .val (.int v14), .unset, .unset, .unset, .unset] [(.int (lcmpW ((((281479271743489 : Int64).toUInt64 >>> (v14 &&& 0x3f).toInt64.toUInt64).toInt64) &&& (1 : Int64)) (0 : Int64)))])) (g' := (mkF m 75 #[.val (.int p0), .val (.int p1), .val (.int v1), .val (.ref u_FilterKind_COUNTING), .val (.long (281479271743489 : Int64)), .second, .val (.int (16 : Int32)), .val (.int v14), .unset, .unset, .unset, .unset] [(.int v16)])) X134 (by
        by_cases hc67_15 : ((((281479271743489 : Int64).toUInt64 >>> (v14 &&& 0x3f).toInt64.toUInt64).toInt64) &&& (1 : Int64)) = (0 : Int64)
        · have hgo135 : ∀ t, Steps p.tables e below (T134.setTop (mkF m 75 #[.val (.int p0), .val (.int p1), .val (.int v1), .val (.ref u_FilterKind_COUNTING), .val (.long (281479271743489 : Int64)), .second, .val (.int (16 : Int32)), .val (.int v14), .unset, .unset, .unset, .unset] [(.int (0 : Int32))])) t → Steps p.tables e below (T134.setTop (mkF m 67 #[.val (.int p0), .val (.int p1), .val (.int v1), .val (.ref u_FilterKind_COUNTING), .val (.long (281479271743489 : Int64)), .second, .val (.int (16 : Int32)), .val (.int v14), .unset, .unset, .unset, .unset] [(.int (lcmpW ((((281479271743489 : Int64).toUInt64 >>> (v14 &&& 0x3f).toInt64.toUInt64).toInt64) &&& (1 : Int64)) (0 : Int64)))])) t := by
            intro t kt
            show Steps p.tables e below (T134.setTop (mkF m 67 #[.val (.int p0), .val (.int p1), .val (.int v1), .val (.ref u_FilterKind_COUNTING), .val (.long (281479271743489 : Int64)), .second, .val (.int (16 : Int32)), .val (.int v14), .unset, .unset, .unset, .unset] [(.int (lcmpW ((((281479271743489 : Int64).toUInt64 >>> (v14 &&& 0x3f).toInt64.toUInt64).toInt64) &&& (1 : Int64)) (0 : Int64)))])) _
            refine XS.ifYes X134.here hx rfl (pc0 := 67) (pc' := 74) rfl (hb hby at_67) rfl ((if0 _ _).trans (teq (own_lc_eq hc67_15)).1) (by decide) (by decide) ?_
            show Steps p.tables e below (T134.setTop (mkF m 74 #[.val (.int p0), .val (.int p1), .val (.int v1), .val (.ref u_FilterKind_COUNTING), .val (.long (281479271743489 : Int64)), .second, .val (.int (16 : Int32)), .val (.int v14), .unset, .unset, .unset, .unset] [])) _
            refine XS.iconst X134.here hx rfl (hb hby at_74) ?_
            exact kt
          refine own_arm hgo135 ?_
          exact own_armEnd X134 N134 e134 (by rw [hv16.trans (if_pos hc67_15)])
        · have hgo136 : ∀ t, Steps p.tables e below (T134.setTop (mkF m 75 #[.val (.int p0), .val (.int p1), .val (.int v1), .val (.ref u_FilterKind_COUNTING), .val (.long (281479271743489 : Int64)), .second, .val (.int (16 : Int32)), .val (.int v14), .unset, .unset, .unset, .unset] [(.int (1 : Int32))])) t → Steps p.tables e below (T134.setTop (mkF m 67 #[.val (.int p0), .val (.int p1), .val (.int v1), .val (.ref u_FilterKind_COUNTING), .val (.long (281479271743489 : Int64)), .second, .val (.int (16 : Int32)), .val (.int v14), .unset, .unset, .unset, .unset] [(.int (lcmpW ((((281479271743489 : Int64).toUInt64 >>> (v14 &&& 0x3f).toInt64.toUInt64).toInt64) &&& (1 : Int64)) (0 : Int64)))])) t := by
            intro t kt
            show Steps p.tables e below (T134.setTop (mkF m 67 #[.val (.int p0), .val (.int p1), .val (.int v1), .val (.ref u_FilterKind_COUNTING), .val (.long (281479271743489 : Int64)), .second, .val (.int (16 : Int32)), .val (.int v14), .unset, .unset, .unset, .unset] [(.int (lcmpW ((((281479271743489 : Int64).toUInt64 >>> (v14 &&& 0x3f).toInt64.toUInt64).toInt64) &&& (1 : Int64)) (0 : Int64)))])) _
            refine XS.ifNo X134.here hx rfl (hb hby at_67) rfl ((if0 _ _).trans (feq (own_lc_neq hc67_15)).1) ?_
            show Steps p.tables e below (T134.setTop (mkF m 70 #[.val (.int p0), .val (.int p1), .val (.int v1), .val (.ref u_FilterKind_COUNTING), .val (.long (281479271743489 : Int64)), .second, .val (.int (16 : Int32)), .val (.int v14), .unset, .unset, .unset, .unset] [])) _
            refine XS.iconst X134.here hx rfl (hb hby at_70) ?_
            show Steps p.tables e below (T134.setTop (mkF m 71 #[.val (.int p0), .val (.int p1), .val (.int v1), .val (.ref u_FilterKind_COUNTING), .val (.long (281479271743489 : Int64)), .second, .val (.int (16 : Int32)), .val (.int v14), .unset, .unset, .unset, .unset] [(.int (1 : Int32))])) _
            refine XS.goto X134.here hx rfl (pc0 := 71) (pc' := 75) rfl (hb hby at_71) (by decide) (by decide) ?_
            exact kt
          refine own_arm hgo136 ?_
          exact own_armEnd X134 N134 e134 (by rw [hv16.trans (if_neg hc67_15)]))
      have hnz81_138 : ¬ ((16 : Int32) = (0 : Int32)) := by decide
      obtain ⟨v18, hv18⟩ : ∃ z : Int32, z = (if (v14 % (16 : Int32)) = (0 : Int32) then (1 : Int32) else (0 : Int32)) := ⟨_, rfl⟩
      obtain ⟨T141, lc141, X141, N141, e141, st141⟩ := own_mrg (n0 := n0) (h := h0) (g := (mkF m 82 #[.val (.int p0), .val (.int p1), .val (.int v1), .val (.ref u_FilterKind_COUNTING), .val (.long (281479271743489 : Int64)), .second, .val (.int (16 : Int32)), .val (.int v14), .val (.int v16), .unset, .unset, .unset] [(.int (v14 % (16 : Int32)))])) (g' := (mkF m 90 #[.val (.int p0), .val (.int p1), .val (.int v1), .val (.ref u_FilterKind_COUNTING), .val (.long (281479271743489 : Int64)), .second, .val (.int (16 : Int32)), .val (.int v14), .val (.int v16), .unset, .unset, .unset] [(.int v18)])) X137 (by
        by_cases hc82_17 : (v14 % (16 : Int32)) = (0 : Int32)
        · have hgo139 : ∀ t, Steps p.tables e below (T137.setTop (mkF m 90 #[.val (.int p0), .val (.int p1), .val (.int v1), .val (.ref u_FilterKind_COUNTING), .val (.long (281479271743489 : Int64)), .second, .val (.int (16 : Int32)), .val (.int v14), .val (.int v16), .unset, .unset, .unset] [(.int (1 : Int32))])) t → Steps p.tables e below (T137.setTop (mkF m 82 #[.val (.int p0), .val (.int p1), .val (.int v1), .val (.ref u_FilterKind_COUNTING), .val (.long (281479271743489 : Int64)), .second, .val (.int (16 : Int32)), .val (.int v14), .val (.int v16), .unset, .unset, .unset] [(.int (v14 % (16 : Int32)))])) t := by
            intro t kt
            show Steps p.tables e below (T137.setTop (mkF m 82 #[.val (.int p0), .val (.int p1), .val (.int v1), .val (.ref u_FilterKind_COUNTING), .val (.long (281479271743489 : Int64)), .second, .val (.int (16 : Int32)), .val (.int v14), .val (.int v16), .unset, .unset, .unset] [(.int (v14 % (16 : Int32)))])) _
            refine XS.ifNo X137.here hx rfl (hb hby at_82) rfl ((if0 _ _).trans (teq hc82_17).2) ?_
            show Steps p.tables e below (T137.setTop (mkF m 85 #[.val (.int p0), .val (.int p1), .val (.int v1), .val (.ref u_FilterKind_COUNTING), .val (.long (281479271743489 : Int64)), .second, .val (.int (16 : Int32)), .val (.int v14), .val (.int v16), .unset, .unset, .unset] [])) _
            refine XS.iconst X137.here hx rfl (hb hby at_85) ?_
            show Steps p.tables e below (T137.setTop (mkF m 86 #[.val (.int p0), .val (.int p1), .val (.int v1), .val (.ref u_FilterKind_COUNTING), .val (.long (281479271743489 : Int64)), .second, .val (.int (16 : Int32)), .val (.int v14), .val (.int v16), .unset, .unset, .unset] [(.int (1 : Int32))])) _
            refine XS.goto X137.here hx rfl (pc0 := 86) (pc' := 90) rfl (hb hby at_86) (by decide) (by decide) ?_
            exact kt
          refine own_arm hgo139 ?_
          exact own_armEnd X137 N137 e137 (by rw [hv18.trans (if_pos hc82_17)])
        · have hgo140 : ∀ t, Steps p.tables e below (T137.setTop (mkF m 90 #[.val (.int p0), .val (.int p1), .val (.int v1), .val (.ref u_FilterKind_COUNTING), .val (.long (281479271743489 : Int64)), .second, .val (.int (16 : Int32)), .val (.int v14), .val (.int v16), .unset, .unset, .unset] [(.int (0 : Int32))])) t → Steps p.tables e below (T137.setTop (mkF m 82 #[.val (.int p0), .val (.int p1), .val (.int v1), .val (.ref u_FilterKind_COUNTING), .val (.long (281479271743489 : Int64)), .second, .val (.int (16 : Int32)), .val (.int v14), .val (.int v16), .unset, .unset, .unset] [(.int (v14 % (16 : Int32)))])) t := by
            intro t kt
            show Steps p.tables e below (T137.setTop (mkF m 82 #[.val (.int p0), .val (.int p1), .val (.int v1), .val (.ref u_FilterKind_COUNTING), .val (.long (281479271743489 : Int64)), .second, .val (.int (16 : Int32)), .val (.int v14), .val (.int v16), .unset, .unset, .unset] [(.int (v14 % (16 : Int32)))])) _
            refine XS.ifYes X137.here hx rfl (pc0 := 82) (pc' := 89) rfl (hb hby at_82) rfl ((if0 _ _).trans (feq hc82_17).2) (by decide) (by decide) ?_
            show Steps p.tables e below (T137.setTop (mkF m 89 #[.val (.int p0), .val (.int p1), .val (.int v1), .val (.ref u_FilterKind_COUNTING), .val (.long (281479271743489 : Int64)), .second, .val (.int (16 : Int32)), .val (.int v14), .val (.int v16), .unset, .unset, .unset] [])) _
            refine XS.iconst X137.here hx rfl (hb hby at_89) ?_
            exact kt
          refine own_arm hgo140 ?_
          exact own_armEnd X137 N137 e137 (by rw [hv18.trans (if_neg hc82_17)]))
      obtain ⟨v21, hv21⟩ : ∃ z : Int32, z = (if (281479271743489 : Int64) = (281479271743489 : Int64) then (1 : Int32) else (0 : Int32)) := ⟨_, rfl⟩
      obtain ⟨v22, hv22⟩ : ∃ z : Int32, z = (if v16 = v18 then v21 else (0 : Int32)) := ⟨_, rfl⟩
      obtain ⟨T147, lc147, X147, N147, e147, st147⟩ := own_mrg (n0 := n0) (h := h0) (g := (mkF m 112 #[.val (.int p0), .val (.int p1), .val (.int v1), .val (.ref u_FilterKind_COUNTING), .val (.long (281479271743489 : Int64)), .second, .val (.int (16 : Int32)), .val (.int v14), .val (.int v16), .val (.int v18), .val (.long (281479271743489 : Int64)), .second] [(.int v18), (.int v16)])) (g' := (mkF m 128 #[.val (.int p0), .val (.int p1), .val (.int v1), .val (.ref u_FilterKind_COUNTING), .val (.long (281479271743489 : Int64)), .second, .val (.int (16 : Int32)), .val (.int v14), .val (.int v16), .val (.int v18), .val (.long (281479271743489 : Int64)), .second] [(.int v22)])) X141 (by
        by_cases hc112_19 : v16 = v18
        · obtain ⟨T144, lc144, X144, N144, e144, st144⟩ := own_mrg (n0 := n0) (h := h0) (g := (mkF m 120 #[.val (.int p0), .val (.int p1), .val (.int v1), .val (.ref u_FilterKind_COUNTING), .val (.long (281479271743489 : Int64)), .second, .val (.int (16 : Int32)), .val (.int v14), .val (.int v16), .val (.int v18), .val (.long (281479271743489 : Int64)), .second] [(.int (lcmpW (281479271743489 : Int64) (281479271743489 : Int64)))])) (g' := (mkF m 128 #[.val (.int p0), .val (.int p1), .val (.int v1), .val (.ref u_FilterKind_COUNTING), .val (.long (281479271743489 : Int64)), .second, .val (.int (16 : Int32)), .val (.int v14), .val (.int v16), .val (.int v18), .val (.long (281479271743489 : Int64)), .second] [(.int v21)])) X141 (by
            by_cases hc120_20 : (281479271743489 : Int64) = (281479271743489 : Int64)
            · have hgo142 : ∀ t, Steps p.tables e below (T141.setTop (mkF m 128 #[.val (.int p0), .val (.int p1), .val (.int v1), .val (.ref u_FilterKind_COUNTING), .val (.long (281479271743489 : Int64)), .second, .val (.int (16 : Int32)), .val (.int v14), .val (.int v16), .val (.int v18), .val (.long (281479271743489 : Int64)), .second] [(.int (1 : Int32))])) t → Steps p.tables e below (T141.setTop (mkF m 120 #[.val (.int p0), .val (.int p1), .val (.int v1), .val (.ref u_FilterKind_COUNTING), .val (.long (281479271743489 : Int64)), .second, .val (.int (16 : Int32)), .val (.int v14), .val (.int v16), .val (.int v18), .val (.long (281479271743489 : Int64)), .second] [(.int (lcmpW (281479271743489 : Int64) (281479271743489 : Int64)))])) t := by
                intro t kt
                show Steps p.tables e below (T141.setTop (mkF m 120 #[.val (.int p0), .val (.int p1), .val (.int v1), .val (.ref u_FilterKind_COUNTING), .val (.long (281479271743489 : Int64)), .second, .val (.int (16 : Int32)), .val (.int v14), .val (.int v16), .val (.int v18), .val (.long (281479271743489 : Int64)), .second] [(.int (lcmpW (281479271743489 : Int64) (281479271743489 : Int64)))])) _
                refine XS.ifNo X141.here hx rfl (hb hby at_120) rfl ((if0 _ _).trans (teq (own_lc_eq hc120_20)).2) ?_
                show Steps p.tables e below (T141.setTop (mkF m 123 #[.val (.int p0), .val (.int p1), .val (.int v1), .val (.ref u_FilterKind_COUNTING), .val (.long (281479271743489 : Int64)), .second, .val (.int (16 : Int32)), .val (.int v14), .val (.int v16), .val (.int v18), .val (.long (281479271743489 : Int64)), .second] [])) _
                refine XS.iconst X141.here hx rfl (hb hby at_123) ?_
                show Steps p.tables e below (T141.setTop (mkF m 124 #[.val (.int p0), .val (.int p1), .val (.int v1), .val (.ref u_FilterKind_COUNTING), .val (.long (281479271743489 : Int64)), .second, .val (.int (16 : Int32)), .val (.int v14), .val (.int v16), .val (.int v18), .val (.long (281479271743489 : Int64)), .second] [(.int (1 : Int32))])) _
                refine XS.goto X141.here hx rfl (pc0 := 124) (pc' := 128) rfl (hb hby at_124) (by decide) (by decide) ?_
                exact kt
              refine own_arm hgo142 ?_
              exact own_armEnd X141 N141 e141 (by rw [hv21.trans (if_pos hc120_20)])
            · have hgo143 : ∀ t, Steps p.tables e below (T141.setTop (mkF m 128 #[.val (.int p0), .val (.int p1), .val (.int v1), .val (.ref u_FilterKind_COUNTING), .val (.long (281479271743489 : Int64)), .second, .val (.int (16 : Int32)), .val (.int v14), .val (.int v16), .val (.int v18), .val (.long (281479271743489 : Int64)), .second] [(.int (0 : Int32))])) t → Steps p.tables e below (T141.setTop (mkF m 120 #[.val (.int p0), .val (.int p1), .val (.int v1), .val (.ref u_FilterKind_COUNTING), .val (.long (281479271743489 : Int64)), .second, .val (.int (16 : Int32)), .val (.int v14), .val (.int v16), .val (.int v18), .val (.long (281479271743489 : Int64)), .second] [(.int (lcmpW (281479271743489 : Int64) (281479271743489 : Int64)))])) t := by
                intro t kt
                show Steps p.tables e below (T141.setTop (mkF m 120 #[.val (.int p0), .val (.int p1), .val (.int v1), .val (.ref u_FilterKind_COUNTING), .val (.long (281479271743489 : Int64)), .second, .val (.int (16 : Int32)), .val (.int v14), .val (.int v16), .val (.int v18), .val (.long (281479271743489 : Int64)), .second] [(.int (lcmpW (281479271743489 : Int64) (281479271743489 : Int64)))])) _
                refine XS.ifYes X141.here hx rfl (pc0 := 120) (pc' := 127) rfl (hb hby at_120) rfl ((if0 _ _).trans (feq (own_lc_neq hc120_20)).2) (by decide) (by decide) ?_
                show Steps p.tables e below (T141.setTop (mkF m 127 #[.val (.int p0), .val (.int p1), .val (.int v1), .val (.ref u_FilterKind_COUNTING), .val (.long (281479271743489 : Int64)), .second, .val (.int (16 : Int32)), .val (.int v14), .val (.int v16), .val (.int v18), .val (.long (281479271743489 : Int64)), .second] [])) _
                refine XS.iconst X141.here hx rfl (hb hby at_127) ?_
                exact kt
              refine own_arm hgo143 ?_
              exact own_armEnd X141 N141 e141 (by rw [hv21.trans (if_neg hc120_20)]))
          have hgo145 : ∀ t, Steps p.tables e below (T144.setTop (mkF m 128 #[.val (.int p0), .val (.int p1), .val (.int v1), .val (.ref u_FilterKind_COUNTING), .val (.long (281479271743489 : Int64)), .second, .val (.int (16 : Int32)), .val (.int v14), .val (.int v16), .val (.int v18), .val (.long (281479271743489 : Int64)), .second] [(.int v21)])) t → Steps p.tables e below (T141.setTop (mkF m 112 #[.val (.int p0), .val (.int p1), .val (.int v1), .val (.ref u_FilterKind_COUNTING), .val (.long (281479271743489 : Int64)), .second, .val (.int (16 : Int32)), .val (.int v14), .val (.int v16), .val (.int v18), .val (.long (281479271743489 : Int64)), .second] [(.int v18), (.int v16)])) t := by
            intro t kt
            show Steps p.tables e below (T141.setTop (mkF m 112 #[.val (.int p0), .val (.int p1), .val (.int v1), .val (.ref u_FilterKind_COUNTING), .val (.long (281479271743489 : Int64)), .second, .val (.int (16 : Int32)), .val (.int v14), .val (.int v16), .val (.int v18), .val (.long (281479271743489 : Int64)), .second] [(.int v18), (.int v16)])) _
            refine XS.icmpNo X141.here hx rfl (hb hby at_112) rfl (teq hc112_19).2 ?_
            show Steps p.tables e below (T141.setTop (mkF m 115 #[.val (.int p0), .val (.int p1), .val (.int v1), .val (.ref u_FilterKind_COUNTING), .val (.long (281479271743489 : Int64)), .second, .val (.int (16 : Int32)), .val (.int v14), .val (.int v16), .val (.int v18), .val (.long (281479271743489 : Int64)), .second] [])) _
            refine XS.lload X141.here hx rfl (hb hby at_115) rfl ?_
            show Steps p.tables e below (T141.setTop (mkF m 117 #[.val (.int p0), .val (.int p1), .val (.int v1), .val (.ref u_FilterKind_COUNTING), .val (.long (281479271743489 : Int64)), .second, .val (.int (16 : Int32)), .val (.int v14), .val (.int v16), .val (.int v18), .val (.long (281479271743489 : Int64)), .second] [(.long (281479271743489 : Int64))])) _
            refine XS.lload X141.here hx rfl (hb hby at_117) rfl ?_
            show Steps p.tables e below (T141.setTop (mkF m 119 #[.val (.int p0), .val (.int p1), .val (.int v1), .val (.ref u_FilterKind_COUNTING), .val (.long (281479271743489 : Int64)), .second, .val (.int (16 : Int32)), .val (.int v14), .val (.int v16), .val (.int v18), .val (.long (281479271743489 : Int64)), .second] [(.long (281479271743489 : Int64)), (.long (281479271743489 : Int64))])) _
            refine XS.lcmp X141.here hx rfl (hb hby at_119) rfl ?_
            show Steps p.tables e below (T141.setTop (mkF m 120 #[.val (.int p0), .val (.int p1), .val (.int v1), .val (.ref u_FilterKind_COUNTING), .val (.long (281479271743489 : Int64)), .second, .val (.int (16 : Int32)), .val (.int v14), .val (.int v16), .val (.int v18), .val (.long (281479271743489 : Int64)), .second] [(.int (lcmpW (281479271743489 : Int64) (281479271743489 : Int64)))])) _
            refine st144 _ ?_
            exact kt
          refine own_arm hgo145 ?_
          exact own_armEnd X144 N144 e144 (by rw [hv22.trans (if_pos hc112_19)])
        · have hgo146 : ∀ t, Steps p.tables e below (T141.setTop (mkF m 128 #[.val (.int p0), .val (.int p1), .val (.int v1), .val (.ref u_FilterKind_COUNTING), .val (.long (281479271743489 : Int64)), .second, .val (.int (16 : Int32)), .val (.int v14), .val (.int v16), .val (.int v18), .val (.long (281479271743489 : Int64)), .second] [(.int (0 : Int32))])) t → Steps p.tables e below (T141.setTop (mkF m 112 #[.val (.int p0), .val (.int p1), .val (.int v1), .val (.ref u_FilterKind_COUNTING), .val (.long (281479271743489 : Int64)), .second, .val (.int (16 : Int32)), .val (.int v14), .val (.int v16), .val (.int v18), .val (.long (281479271743489 : Int64)), .second] [(.int v18), (.int v16)])) t := by
            intro t kt
            show Steps p.tables e below (T141.setTop (mkF m 112 #[.val (.int p0), .val (.int p1), .val (.int v1), .val (.ref u_FilterKind_COUNTING), .val (.long (281479271743489 : Int64)), .second, .val (.int (16 : Int32)), .val (.int v14), .val (.int v16), .val (.int v18), .val (.long (281479271743489 : Int64)), .second] [(.int v18), (.int v16)])) _
            refine XS.icmpYes X141.here hx rfl (pc0 := 112) (pc' := 127) rfl (hb hby at_112) rfl (feq hc112_19).2 (by decide) (by decide) ?_
            show Steps p.tables e below (T141.setTop (mkF m 127 #[.val (.int p0), .val (.int p1), .val (.int v1), .val (.ref u_FilterKind_COUNTING), .val (.long (281479271743489 : Int64)), .second, .val (.int (16 : Int32)), .val (.int v14), .val (.int v16), .val (.int v18), .val (.long (281479271743489 : Int64)), .second] [])) _
            refine XS.iconst X141.here hx rfl (hb hby at_127) ?_
            exact kt
          refine own_arm hgo146 ?_
          exact own_armEnd X141 N141 e141 (by rw [hv22.trans (if_neg hc112_19)]))
      have hgo148 : ∀ t, Steps p.tables e below (T147.setTop (mkF m 128 #[.val (.int p0), .val (.int p1), .val (.int v1), .val (.ref u_FilterKind_COUNTING), .val (.long (281479271743489 : Int64)), .second, .val (.int (16 : Int32)), .val (.int v14), .val (.int v16), .val (.int v18), .val (.long (281479271743489 : Int64)), .second] [(.int v22)])) t → Steps p.tables e below (s₁.setTop (mkF m 19 #[.val (.int p0), .val (.int p1), .val (.int v1), .unset, .unset, .unset, .unset, .unset, .unset, .unset, .unset, .unset] [(.int (1 : Int32)), (.int v1)])) t := by
        intro t kt
        show Steps p.tables e below (s₁.setTop (mkF m 19 #[.val (.int p0), .val (.int p1), .val (.int v1), .unset, .unset, .unset, .unset, .unset, .unset, .unset, .unset, .unset] [(.int (1 : Int32)), (.int v1)])) _
        refine XS.icmpNo X0.here hx rfl (hb hby at_19) rfl (teq hc19_13).2 ?_
        show Steps p.tables e below (s₁.setTop (mkF m 22 #[.val (.int p0), .val (.int p1), .val (.int v1), .unset, .unset, .unset, .unset, .unset, .unset, .unset, .unset, .unset] [])) _
        refine st132 _ ?_
        show Steps p.tables e below (T132.setTop (mkF m 25 #[.val (.int p0), .val (.int p1), .val (.int v1), .unset, .unset, .unset, .unset, .unset, .unset, .unset, .unset, .unset] [(.ref u_FilterKind_COUNTING)])) _
        refine XS.goto X132.here hx rfl (pc0 := 25) (pc' := 31) rfl (hb hby at_25) (by decide) (by decide) ?_
        show Steps p.tables e below (T132.setTop (mkF m 31 #[.val (.int p0), .val (.int p1), .val (.int v1), .unset, .unset, .unset, .unset, .unset, .unset, .unset, .unset, .unset] [(.ref u_FilterKind_COUNTING)])) _
        refine XS.astoreN X132.here hx rfl (hb hby at_31) rfl rfl (l' := #[.val (.int p0), .val (.int p1), .val (.int v1), .val (.ref u_FilterKind_COUNTING), .unset, .unset, .unset, .unset, .unset, .unset, .unset, .unset]) rfl ?_
        show Steps p.tables e below (T132.setTop (mkF m 32 #[.val (.int p0), .val (.int p1), .val (.int v1), .val (.ref u_FilterKind_COUNTING), .unset, .unset, .unset, .unset, .unset, .unset, .unset, .unset] [])) _
        refine XS.aloadN X132.here hx rfl (hb hby at_32) rfl rfl ?_
        show Steps p.tables e below (T132.setTop (mkF m 33 #[.val (.int p0), .val (.int p1), .val (.int v1), .val (.ref u_FilterKind_COUNTING), .unset, .unset, .unset, .unset, .unset, .unset, .unset, .unset] [(.ref u_FilterKind_COUNTING)])) _
        refine st133.trans ?_
        show Steps p.tables e below (T133.setTop (mkF m 36 #[.val (.int p0), .val (.int p1), .val (.int v1), .val (.ref u_FilterKind_COUNTING), .unset, .unset, .unset, .unset, .unset, .unset, .unset, .unset] [(.long (281479271743489 : Int64))])) _
        refine XS.lstore X133.here hx rfl (hb hby at_36) rfl (l' := #[.val (.int p0), .val (.int p1), .val (.int v1), .val (.ref u_FilterKind_COUNTING), .val (.long (281479271743489 : Int64)), .second, .unset, .unset, .unset, .unset, .unset, .unset]) rfl ?_
        show Steps p.tables e below (T133.setTop (mkF m 38 #[.val (.int p0), .val (.int p1), .val (.int v1), .val (.ref u_FilterKind_COUNTING), .val (.long (281479271743489 : Int64)), .second, .unset, .unset, .unset, .unset, .unset, .unset] [])) _
        refine XS.aloadN X133.here hx rfl (hb hby at_38) rfl rfl ?_
        show Steps p.tables e below (T133.setTop (mkF m 39 #[.val (.int p0), .val (.int p1), .val (.int v1), .val (.ref u_FilterKind_COUNTING), .val (.long (281479271743489 : Int64)), .second, .unset, .unset, .unset, .unset, .unset, .unset] [(.ref u_FilterKind_COUNTING)])) _
        refine st134.trans ?_
        show Steps p.tables e below (T134.setTop (mkF m 42 #[.val (.int p0), .val (.int p1), .val (.int v1), .val (.ref u_FilterKind_COUNTING), .val (.long (281479271743489 : Int64)), .second, .unset, .unset, .unset, .unset, .unset, .unset] [(.int (16 : Int32))])) _
        refine XS.istore X134.here hx rfl (hb hby at_42) rfl (l' := #[.val (.int p0), .val (.int p1), .val (.int v1), .val (.ref u_FilterKind_COUNTING), .val (.long (281479271743489 : Int64)), .second, .val (.int (16 : Int32)), .unset, .unset, .unset, .unset, .unset]) rfl ?_
        show Steps p.tables e below (T134.setTop (mkF m 44 #[.val (.int p0), .val (.int p1), .val (.int v1), .val (.ref u_FilterKind_COUNTING), .val (.long (281479271743489 : Int64)), .second, .val (.int (16 : Int32)), .unset, .unset, .unset, .unset, .unset] [])) _
        refine XS.iload X134.here hx rfl (hb hby at_44) rfl ?_
        show Steps p.tables e below (T134.setTop (mkF m 46 #[.val (.int p0), .val (.int p1), .val (.int v1), .val (.ref u_FilterKind_COUNTING), .val (.long (281479271743489 : Int64)), .second, .val (.int (16 : Int32)), .unset, .unset, .unset, .unset, .unset] [(.int (16 : Int32))])) _
        refine XS.iconst X134.here hx rfl (hb hby at_46) ?_
        show Steps p.tables e below (T134.setTop (mkF m 47 #[.val (.int p0), .val (.int p1), .val (.int v1), .val (.ref u_FilterKind_COUNTING), .val (.long (281479271743489 : Int64)), .second, .val (.int (16 : Int32)), .unset, .unset, .unset, .unset, .unset] [(.int (1 : Int32)), (.int (16 : Int32))])) _
        refine XS.icmpYes X134.here hx rfl (pc0 := 47) (pc' := 52) rfl (hb hby at_47) rfl (flt (by decide : ¬ ((16 : Int32) < (1 : Int32)))).2.1 (by decide) (by decide) ?_
        show Steps p.tables e below (T134.setTop (mkF m 52 #[.val (.int p0), .val (.int p1), .val (.int v1), .val (.ref u_FilterKind_COUNTING), .val (.long (281479271743489 : Int64)), .second, .val (.int (16 : Int32)), .unset, .unset, .unset, .unset, .unset] [])) _
        refine XS.iloadN X134.here hx rfl (hb hby at_52) rfl ?_
        show Steps p.tables e below (T134.setTop (mkF m 53 #[.val (.int p0), .val (.int p1), .val (.int v1), .val (.ref u_FilterKind_COUNTING), .val (.long (281479271743489 : Int64)), .second, .val (.int (16 : Int32)), .unset, .unset, .unset, .unset, .unset] [(.int p1)])) _
        refine XS.bipush X134.here hx rfl (hb hby at_53) ?_
        show Steps p.tables e below (T134.setTop (mkF m 55 #[.val (.int p0), .val (.int p1), .val (.int v1), .val (.ref u_FilterKind_COUNTING), .val (.long (281479271743489 : Int64)), .second, .val (.int (16 : Int32)), .unset, .unset, .unset, .unset, .unset] [(.int (63 : Int32)), (.int p1)])) _
        refine XS.iand X134.here hx rfl (hb hby at_55) rfl ?_
        show Steps p.tables e below (T134.setTop (mkF m 56 #[.val (.int p0), .val (.int p1), .val (.int v1), .val (.ref u_FilterKind_COUNTING), .val (.long (281479271743489 : Int64)), .second, .val (.int (16 : Int32)), .unset, .unset, .unset, .unset, .unset] [(.int (p1 &&& (63 : Int32)))])) _
        rw [← hv14]
        show Steps p.tables e below (T134.setTop (mkF m 56 #[.val (.int p0), .val (.int p1), .val (.int v1), .val (.ref u_FilterKind_COUNTING), .val (.long (281479271743489 : Int64)), .second, .val (.int (16 : Int32)), .unset, .unset, .unset, .unset, .unset] [(.int v14)])) _
        refine XS.istore X134.here hx rfl (hb hby at_56) rfl (l' := #[.val (.int p0), .val (.int p1), .val (.int v1), .val (.ref u_FilterKind_COUNTING), .val (.long (281479271743489 : Int64)), .second, .val (.int (16 : Int32)), .val (.int v14), .unset, .unset, .unset, .unset]) rfl ?_
        show Steps p.tables e below (T134.setTop (mkF m 58 #[.val (.int p0), .val (.int p1), .val (.int v1), .val (.ref u_FilterKind_COUNTING), .val (.long (281479271743489 : Int64)), .second, .val (.int (16 : Int32)), .val (.int v14), .unset, .unset, .unset, .unset] [])) _
        refine XS.lload X134.here hx rfl (hb hby at_58) rfl ?_
        show Steps p.tables e below (T134.setTop (mkF m 60 #[.val (.int p0), .val (.int p1), .val (.int v1), .val (.ref u_FilterKind_COUNTING), .val (.long (281479271743489 : Int64)), .second, .val (.int (16 : Int32)), .val (.int v14), .unset, .unset, .unset, .unset] [(.long (281479271743489 : Int64))])) _
        refine XS.iload X134.here hx rfl (hb hby at_60) rfl ?_
        show Steps p.tables e below (T134.setTop (mkF m 62 #[.val (.int p0), .val (.int p1), .val (.int v1), .val (.ref u_FilterKind_COUNTING), .val (.long (281479271743489 : Int64)), .second, .val (.int (16 : Int32)), .val (.int v14), .unset, .unset, .unset, .unset] [(.int v14), (.long (281479271743489 : Int64))])) _
        refine XS.lushr X134.here hx rfl (hb hby at_62) rfl ?_
        show Steps p.tables e below (T134.setTop (mkF m 63 #[.val (.int p0), .val (.int p1), .val (.int v1), .val (.ref u_FilterKind_COUNTING), .val (.long (281479271743489 : Int64)), .second, .val (.int (16 : Int32)), .val (.int v14), .unset, .unset, .unset, .unset] [(.long (((281479271743489 : Int64).toUInt64 >>> (v14 &&& 0x3f).toInt64.toUInt64).toInt64))])) _
        refine XS.lconst X134.here hx rfl (hb hby at_63) ?_
        show Steps p.tables e below (T134.setTop (mkF m 64 #[.val (.int p0), .val (.int p1), .val (.int v1), .val (.ref u_FilterKind_COUNTING), .val (.long (281479271743489 : Int64)), .second, .val (.int (16 : Int32)), .val (.int v14), .unset, .unset, .unset, .unset] [(.long (1 : Int64)), (.long (((281479271743489 : Int64).toUInt64 >>> (v14 &&& 0x3f).toInt64.toUInt64).toInt64))])) _
        refine XS.land X134.here hx rfl (hb hby at_64) rfl ?_
        show Steps p.tables e below (T134.setTop (mkF m 65 #[.val (.int p0), .val (.int p1), .val (.int v1), .val (.ref u_FilterKind_COUNTING), .val (.long (281479271743489 : Int64)), .second, .val (.int (16 : Int32)), .val (.int v14), .unset, .unset, .unset, .unset] [(.long ((((281479271743489 : Int64).toUInt64 >>> (v14 &&& 0x3f).toInt64.toUInt64).toInt64) &&& (1 : Int64)))])) _
        refine XS.lconst X134.here hx rfl (hb hby at_65) ?_
        show Steps p.tables e below (T134.setTop (mkF m 66 #[.val (.int p0), .val (.int p1), .val (.int v1), .val (.ref u_FilterKind_COUNTING), .val (.long (281479271743489 : Int64)), .second, .val (.int (16 : Int32)), .val (.int v14), .unset, .unset, .unset, .unset] [(.long (0 : Int64)), (.long ((((281479271743489 : Int64).toUInt64 >>> (v14 &&& 0x3f).toInt64.toUInt64).toInt64) &&& (1 : Int64)))])) _
        refine XS.lcmp X134.here hx rfl (hb hby at_66) rfl ?_
        show Steps p.tables e below (T134.setTop (mkF m 67 #[.val (.int p0), .val (.int p1), .val (.int v1), .val (.ref u_FilterKind_COUNTING), .val (.long (281479271743489 : Int64)), .second, .val (.int (16 : Int32)), .val (.int v14), .unset, .unset, .unset, .unset] [(.int (lcmpW ((((281479271743489 : Int64).toUInt64 >>> (v14 &&& 0x3f).toInt64.toUInt64).toInt64) &&& (1 : Int64)) (0 : Int64)))])) _
        refine st137 _ ?_
        show Steps p.tables e below (T137.setTop (mkF m 75 #[.val (.int p0), .val (.int p1), .val (.int v1), .val (.ref u_FilterKind_COUNTING), .val (.long (281479271743489 : Int64)), .second, .val (.int (16 : Int32)), .val (.int v14), .unset, .unset, .unset, .unset] [(.int v16)])) _
        refine XS.istore X137.here hx rfl (hb hby at_75) rfl (l' := #[.val (.int p0), .val (.int p1), .val (.int v1), .val (.ref u_FilterKind_COUNTING), .val (.long (281479271743489 : Int64)), .second, .val (.int (16 : Int32)), .val (.int v14), .val (.int v16), .unset, .unset, .unset]) rfl ?_
        show Steps p.tables e below (T137.setTop (mkF m 77 #[.val (.int p0), .val (.int p1), .val (.int v1), .val (.ref u_FilterKind_COUNTING), .val (.long (281479271743489 : Int64)), .second, .val (.int (16 : Int32)), .val (.int v14), .val (.int v16), .unset, .unset, .unset] [])) _
        refine XS.iload X137.here hx rfl (hb hby at_77) rfl ?_
        show Steps p.tables e below (T137.setTop (mkF m 79 #[.val (.int p0), .val (.int p1), .val (.int v1), .val (.ref u_FilterKind_COUNTING), .val (.long (281479271743489 : Int64)), .second, .val (.int (16 : Int32)), .val (.int v14), .val (.int v16), .unset, .unset, .unset] [(.int v14)])) _
        refine XS.iload X137.here hx rfl (hb hby at_79) rfl ?_
        show Steps p.tables e below (T137.setTop (mkF m 81 #[.val (.int p0), .val (.int p1), .val (.int v1), .val (.ref u_FilterKind_COUNTING), .val (.long (281479271743489 : Int64)), .second, .val (.int (16 : Int32)), .val (.int v14), .val (.int v16), .unset, .unset, .unset] [(.int (16 : Int32)), (.int v14)])) _
        refine XS.irem X137.here hx rfl (hb hby at_81) rfl hnz81_138 ?_
        rw [own_remI v14 (16 : Int32)]
        show Steps p.tables e below (T137.setTop (mkF m 82 #[.val (.int p0), .val (.int p1), .val (.int v1), .val (.ref u_FilterKind_COUNTING), .val (.long (281479271743489 : Int64)), .second, .val (.int (16 : Int32)), .val (.int v14), .val (.int v16), .unset, .unset, .unset] [(.int (v14 % (16 : Int32)))])) _
        refine st141 _ ?_
        show Steps p.tables e below (T141.setTop (mkF m 90 #[.val (.int p0), .val (.int p1), .val (.int v1), .val (.ref u_FilterKind_COUNTING), .val (.long (281479271743489 : Int64)), .second, .val (.int (16 : Int32)), .val (.int v14), .val (.int v16), .unset, .unset, .unset] [(.int v18)])) _
        refine XS.istore X141.here hx rfl (hb hby at_90) rfl (l' := #[.val (.int p0), .val (.int p1), .val (.int v1), .val (.ref u_FilterKind_COUNTING), .val (.long (281479271743489 : Int64)), .second, .val (.int (16 : Int32)), .val (.int v14), .val (.int v16), .val (.int v18), .unset, .unset]) rfl ?_
        show Steps p.tables e below (T141.setTop (mkF m 92 #[.val (.int p0), .val (.int p1), .val (.int v1), .val (.ref u_FilterKind_COUNTING), .val (.long (281479271743489 : Int64)), .second, .val (.int (16 : Int32)), .val (.int v14), .val (.int v16), .val (.int v18), .unset, .unset] [])) _
        refine XS.iloadN X141.here hx rfl (hb hby at_92) rfl ?_
        show Steps p.tables e below (T141.setTop (mkF m 93 #[.val (.int p0), .val (.int p1), .val (.int v1), .val (.ref u_FilterKind_COUNTING), .val (.long (281479271743489 : Int64)), .second, .val (.int (16 : Int32)), .val (.int v14), .val (.int v16), .val (.int v18), .unset, .unset] [(.int v1)])) _
        refine XS.iconst X141.here hx rfl (hb hby at_93) ?_
        show Steps p.tables e below (T141.setTop (mkF m 94 #[.val (.int p0), .val (.int p1), .val (.int v1), .val (.ref u_FilterKind_COUNTING), .val (.long (281479271743489 : Int64)), .second, .val (.int (16 : Int32)), .val (.int v14), .val (.int v16), .val (.int v18), .unset, .unset] [(.int (1 : Int32)), (.int v1)])) _
        refine XS.icmpNo X141.here hx rfl (hb hby at_94) rfl (teq hc19_13).2 ?_
        show Steps p.tables e below (T141.setTop (mkF m 97 #[.val (.int p0), .val (.int p1), .val (.int v1), .val (.ref u_FilterKind_COUNTING), .val (.long (281479271743489 : Int64)), .second, .val (.int (16 : Int32)), .val (.int v14), .val (.int v16), .val (.int v18), .unset, .unset] [])) _
        refine X141.ldc2Long hx hown (mvT hZ (hw _ (List.mem_of_getElem? (i := 21) rfl))) (g := (mkF m 97 #[.val (.int p0), .val (.int p1), .val (.int v1), .val (.ref u_FilterKind_COUNTING), .val (.long (281479271743489 : Int64)), .second, .val (.int (16 : Int32)), .val (.int v14), .val (.int v16), .val (.int v18), .unset, .unset] [])) rfl (hb hby at_97) _ ?_
        show Steps p.tables e below (T141.setTop (mkF m 100 #[.val (.int p0), .val (.int p1), .val (.int v1), .val (.ref u_FilterKind_COUNTING), .val (.long (281479271743489 : Int64)), .second, .val (.int (16 : Int32)), .val (.int v14), .val (.int v16), .val (.int v18), .unset, .unset] [(.long (281479271743489 : Int64))])) _
        refine XS.goto X141.here hx rfl (pc0 := 100) (pc' := 106) rfl (hb hby at_100) (by decide) (by decide) ?_
        show Steps p.tables e below (T141.setTop (mkF m 106 #[.val (.int p0), .val (.int p1), .val (.int v1), .val (.ref u_FilterKind_COUNTING), .val (.long (281479271743489 : Int64)), .second, .val (.int (16 : Int32)), .val (.int v14), .val (.int v16), .val (.int v18), .unset, .unset] [(.long (281479271743489 : Int64))])) _
        refine XS.lstore X141.here hx rfl (hb hby at_106) rfl (l' := #[.val (.int p0), .val (.int p1), .val (.int v1), .val (.ref u_FilterKind_COUNTING), .val (.long (281479271743489 : Int64)), .second, .val (.int (16 : Int32)), .val (.int v14), .val (.int v16), .val (.int v18), .val (.long (281479271743489 : Int64)), .second]) rfl ?_
        show Steps p.tables e below (T141.setTop (mkF m 108 #[.val (.int p0), .val (.int p1), .val (.int v1), .val (.ref u_FilterKind_COUNTING), .val (.long (281479271743489 : Int64)), .second, .val (.int (16 : Int32)), .val (.int v14), .val (.int v16), .val (.int v18), .val (.long (281479271743489 : Int64)), .second] [])) _
        refine XS.iload X141.here hx rfl (hb hby at_108) rfl ?_
        show Steps p.tables e below (T141.setTop (mkF m 110 #[.val (.int p0), .val (.int p1), .val (.int v1), .val (.ref u_FilterKind_COUNTING), .val (.long (281479271743489 : Int64)), .second, .val (.int (16 : Int32)), .val (.int v14), .val (.int v16), .val (.int v18), .val (.long (281479271743489 : Int64)), .second] [(.int v16)])) _
        refine XS.iload X141.here hx rfl (hb hby at_110) rfl ?_
        show Steps p.tables e below (T141.setTop (mkF m 112 #[.val (.int p0), .val (.int p1), .val (.int v1), .val (.ref u_FilterKind_COUNTING), .val (.long (281479271743489 : Int64)), .second, .val (.int (16 : Int32)), .val (.int v14), .val (.int v16), .val (.int v18), .val (.long (281479271743489 : Int64)), .second] [(.int v18), (.int v16)])) _
        refine st147 _ ?_
        exact kt
      refine own_go hgo148 ?_
      have hz149 : v22 = 1 := own_leaf1 (p0 := p0) (p1 := p1) (u_FilterKind_SEEN := u_FilterKind_SEEN) (u_FilterKind_URL_LAYERS := u_FilterKind_URL_LAYERS) (u_FilterKind_COUNTING := u_FilterKind_COUNTING) hv1 hv14 hv16 hv18 hv21 hv22 hc8_2 hc19_13
      exact own_retZ X147 hx Bd.returns Bd.notSynchronized (hb hby at_128) (by decide) (by decide) (Or.inr hz149) ⟨by rw [hz149], N147⟩
    · obtain ⟨T150, X150, e150, st150⟩ := getS2 X0 hx hZ hown (host := "") (Or.inl (hw _ (List.mem_of_getElem? (i := 17) rfl))) Via.refl e0 S_u_FilterKind_URL_LAYERS (g := (mkF m 28 #[.val (.int p0), .val (.int p1), .val (.int v1), .unset, .unset, .unset, .unset, .unset, .unset, .unset, .unset, .unset] [])) rfl (hb hby at_28)
      obtain ⟨cq151, kq151, q151a, q151b, q151c⟩ := isOf hZ e150 E_u_FilterKind_URL_LAYERS
      obtain ⟨_, _, ⟨T151, L151, k151, n151⟩, -, X151, ⟨Lc151, hQ151, l151, y151, z151⟩, st151⟩ := X150.virtualBack hx (y := (⟨"com/example/upper_falls/upperfalls/FilterKind", "lowestBitOfEachCell", "()J"⟩ : MethodName)) (z := (⟨"com/example/upper_falls/upperfalls/FilterKind", "lowestBitOfEachCell", "()J"⟩ : MethodName)) hown (mvT hZ (hw _ (List.mem_of_getElem? (i := 4) rfl))) (mvT hZ (hw _ (List.mem_of_getElem? (i := 5) rfl))) (notFace_of_selects (args := #[]) (mvT hZ (hw _ (List.mem_of_getElem? (i := 7) rfl)))) (mvT hZ (hw _ (List.mem_of_getElem? (i := 7) rfl))) (mvT hZ (hw _ (List.mem_of_getElem? (i := 6) rfl))) (by decide) (backOf (W := 0) (rm1a l Z a0 hw [] u_FilterKind_URL_LAYERS h0 n0 Z0 F_cellBits_u_FilterKind_URL_LAYERS) hZ (hw _ (List.mem_of_getElem? (i := 8) rfl)) (hw _ (List.mem_of_getElem? (i := 2) rfl)) (by decide) (by decide)) q151a q151c (g := (mkF m 33 #[.val (.int p0), .val (.int p1), .val (.int v1), .val (.ref u_FilterKind_URL_LAYERS), .unset, .unset, .unset, .unset, .unset, .unset, .unset, .unset] [(.ref u_FilterKind_URL_LAYERS)])) rfl (by rw [hml]; rfl) (Steps.refl _) (argsL := []) (rest := []) (lenOf pd1 rfl) rfl (by show 2 * 0 + _ ≤ _; exact Nat.le_of_eq rfl) (hb hby at_33) (fun _ _ => ⟨rfl, e150, (by decide : 0 + 0 ≤ _), (by decide : 0 + 0 ≤ _)⟩)
      dsimp only [Pt.U, Pt.locs, Pt.cells, Pt.slots] at X151 l151 y151 z151 st151 hQ151
      subst l151 y151 z151
      obtain ⟨rfl, N151q, e151⟩ := hQ151
      have N151 := Fr.app N0 N151q
      obtain ⟨cq152, kq152, q152a, q152b, q152c⟩ := isOf hZ e151 E_u_FilterKind_URL_LAYERS
      obtain ⟨_, _, ⟨T152, L152, k152, n152⟩, -, X152, ⟨Lc152, hQ152, l152, y152, z152⟩, st152⟩ := X151.virtualBack hx (y := (⟨"com/example/upper_falls/upperfalls/FilterKind", "cellBits", "()I"⟩ : MethodName)) (z := (⟨"com/example/upper_falls/upperfalls/FilterKind", "cellBits", "()I"⟩ : MethodName)) hown (mvT hZ (hw _ (List.mem_of_getElem? (i := 11) rfl))) (mvT hZ (hw _ (List.mem_of_getElem? (i := 12) rfl))) (notFace_of_selects (args := #[]) (mvT hZ (hw _ (List.mem_of_getElem? (i := 14) rfl)))) (mvT hZ (hw _ (List.mem_of_getElem? (i := 14) rfl))) (mvT hZ (hw _ (List.mem_of_getElem? (i := 13) rfl))) (by decide) (backOf (W := 0) (rm2 l Z a0 hw [] u_FilterKind_URL_LAYERS (1 : Int32) h0 n0 Z0 F_cellBits_u_FilterKind_URL_LAYERS) hZ (hw _ (List.mem_of_getElem? (i := 15) rfl)) (hw _ (List.mem_of_getElem? (i := 2) rfl)) (by decide) (by decide)) q152a q152c (g := (mkF m 39 #[.val (.int p0), .val (.int p1), .val (.int v1), .val (.ref u_FilterKind_URL_LAYERS), .val (.long (-1 : Int64)), .second, .unset, .unset, .unset, .unset, .unset, .unset] [(.ref u_FilterKind_URL_LAYERS)])) rfl (by rw [hml]; rfl) (Steps.refl _) (argsL := []) (rest := []) (lenOf pd2 rfl) rfl (by show 2 * 0 + _ ≤ _; exact Nat.le_of_eq rfl) (hb hby at_39) (fun _ _ => ⟨rfl, e151, (by decide : 0 + 0 ≤ _), (by decide : 0 + 0 ≤ _)⟩)
      dsimp only [Pt.U, Pt.locs, Pt.cells, Pt.slots] at X152 l152 y152 z152 st152 hQ152
      subst l152 y152 z152
      obtain ⟨rfl, N152q, e152⟩ := hQ152
      have N152 := Fr.app N151 N152q
      obtain ⟨v23, hv23⟩ : ∃ z : Int32, z = (p1 &&& (63 : Int32)) := ⟨_, rfl⟩
      obtain ⟨v25, hv25⟩ : ∃ z : Int32, z = (if ((((-1 : Int64).toUInt64 >>> (v23 &&& 0x3f).toInt64.toUInt64).toInt64) &&& (1 : Int64)) = (0 : Int64) then (0 : Int32) else (1 : Int32)) := ⟨_, rfl⟩
      obtain ⟨T155, lc155, X155, N155, e155, st155⟩ := own_mrg (n0 := n0) (h := h0) (g := (mkF m 67 #[.val (.int p0), .val (.int p1), .val (.int v1), .val (.ref u_FilterKind_URL_LAYERS), .val (.long (-1 : Int64)), .second, .val (.int (1 : Int32)), .val (.int v23), .unset, .unset, .unset, .unset] [(.int (lcmpW ((((-1 : Int64).toUInt64 >>> (v23 &&& 0x3f).toInt64.toUInt64).toInt64) &&& (1 : Int64)) (0 : Int64)))])) (g' := (mkF m 75 #[.val (.int p0), .val (.int p1), .val (.int v1), .val (.ref u_FilterKind_URL_LAYERS), .val (.long (-1 : Int64)), .second, .val (.int (1 : Int32)), .val (.int v23), .unset, .unset, .unset, .unset] [(.int v25)])) X152 (by
        by_cases hc67_24 : ((((-1 : Int64).toUInt64 >>> (v23 &&& 0x3f).toInt64.toUInt64).toInt64) &&& (1 : Int64)) = (0 : Int64)
        · have hgo153 : ∀ t, Steps p.tables e below (T152.setTop (mkF m 75 #[.val (.int p0), .val (.int p1), .val (.int v1), .val (.ref u_FilterKind_URL_LAYERS), .val (.long (-1 : Int64)), .second, .val (.int (1 : Int32)), .val (.int v23), .unset, .unset, .unset, .unset] [(.int (0 : Int32))])) t → Steps p.tables e below (T152.setTop (mkF m 67 #[.val (.int p0), .val (.int p1), .val (.int v1), .val (.ref u_FilterKind_URL_LAYERS), .val (.long (-1 : Int64)), .second, .val (.int (1 : Int32)), .val (.int v23), .unset, .unset, .unset, .unset] [(.int (lcmpW ((((-1 : Int64).toUInt64 >>> (v23 &&& 0x3f).toInt64.toUInt64).toInt64) &&& (1 : Int64)) (0 : Int64)))])) t := by
            intro t kt
            show Steps p.tables e below (T152.setTop (mkF m 67 #[.val (.int p0), .val (.int p1), .val (.int v1), .val (.ref u_FilterKind_URL_LAYERS), .val (.long (-1 : Int64)), .second, .val (.int (1 : Int32)), .val (.int v23), .unset, .unset, .unset, .unset] [(.int (lcmpW ((((-1 : Int64).toUInt64 >>> (v23 &&& 0x3f).toInt64.toUInt64).toInt64) &&& (1 : Int64)) (0 : Int64)))])) _
            refine XS.ifYes X152.here hx rfl (pc0 := 67) (pc' := 74) rfl (hb hby at_67) rfl ((if0 _ _).trans (teq (own_lc_eq hc67_24)).1) (by decide) (by decide) ?_
            show Steps p.tables e below (T152.setTop (mkF m 74 #[.val (.int p0), .val (.int p1), .val (.int v1), .val (.ref u_FilterKind_URL_LAYERS), .val (.long (-1 : Int64)), .second, .val (.int (1 : Int32)), .val (.int v23), .unset, .unset, .unset, .unset] [])) _
            refine XS.iconst X152.here hx rfl (hb hby at_74) ?_
            exact kt
          refine own_arm hgo153 ?_
          exact own_armEnd X152 N152 e152 (by rw [hv25.trans (if_pos hc67_24)])
        · have hgo154 : ∀ t, Steps p.tables e below (T152.setTop (mkF m 75 #[.val (.int p0), .val (.int p1), .val (.int v1), .val (.ref u_FilterKind_URL_LAYERS), .val (.long (-1 : Int64)), .second, .val (.int (1 : Int32)), .val (.int v23), .unset, .unset, .unset, .unset] [(.int (1 : Int32))])) t → Steps p.tables e below (T152.setTop (mkF m 67 #[.val (.int p0), .val (.int p1), .val (.int v1), .val (.ref u_FilterKind_URL_LAYERS), .val (.long (-1 : Int64)), .second, .val (.int (1 : Int32)), .val (.int v23), .unset, .unset, .unset, .unset] [(.int (lcmpW ((((-1 : Int64).toUInt64 >>> (v23 &&& 0x3f).toInt64.toUInt64).toInt64) &&& (1 : Int64)) (0 : Int64)))])) t := by
            intro t kt
            show Steps p.tables e below (T152.setTop (mkF m 67 #[.val (.int p0), .val (.int p1), .val (.int v1), .val (.ref u_FilterKind_URL_LAYERS), .val (.long (-1 : Int64)), .second, .val (.int (1 : Int32)), .val (.int v23), .unset, .unset, .unset, .unset] [(.int (lcmpW ((((-1 : Int64).toUInt64 >>> (v23 &&& 0x3f).toInt64.toUInt64).toInt64) &&& (1 : Int64)) (0 : Int64)))])) _
            refine XS.ifNo X152.here hx rfl (hb hby at_67) rfl ((if0 _ _).trans (feq (own_lc_neq hc67_24)).1) ?_
            show Steps p.tables e below (T152.setTop (mkF m 70 #[.val (.int p0), .val (.int p1), .val (.int v1), .val (.ref u_FilterKind_URL_LAYERS), .val (.long (-1 : Int64)), .second, .val (.int (1 : Int32)), .val (.int v23), .unset, .unset, .unset, .unset] [])) _
            refine XS.iconst X152.here hx rfl (hb hby at_70) ?_
            show Steps p.tables e below (T152.setTop (mkF m 71 #[.val (.int p0), .val (.int p1), .val (.int v1), .val (.ref u_FilterKind_URL_LAYERS), .val (.long (-1 : Int64)), .second, .val (.int (1 : Int32)), .val (.int v23), .unset, .unset, .unset, .unset] [(.int (1 : Int32))])) _
            refine XS.goto X152.here hx rfl (pc0 := 71) (pc' := 75) rfl (hb hby at_71) (by decide) (by decide) ?_
            exact kt
          refine own_arm hgo154 ?_
          exact own_armEnd X152 N152 e152 (by rw [hv25.trans (if_neg hc67_24)]))
      have hnz81_156 : ¬ ((1 : Int32) = (0 : Int32)) := by decide
      obtain ⟨v27, hv27⟩ : ∃ z : Int32, z = (if (v23 % (1 : Int32)) = (0 : Int32) then (1 : Int32) else (0 : Int32)) := ⟨_, rfl⟩
      obtain ⟨T159, lc159, X159, N159, e159, st159⟩ := own_mrg (n0 := n0) (h := h0) (g := (mkF m 82 #[.val (.int p0), .val (.int p1), .val (.int v1), .val (.ref u_FilterKind_URL_LAYERS), .val (.long (-1 : Int64)), .second, .val (.int (1 : Int32)), .val (.int v23), .val (.int v25), .unset, .unset, .unset] [(.int (v23 % (1 : Int32)))])) (g' := (mkF m 90 #[.val (.int p0), .val (.int p1), .val (.int v1), .val (.ref u_FilterKind_URL_LAYERS), .val (.long (-1 : Int64)), .second, .val (.int (1 : Int32)), .val (.int v23), .val (.int v25), .unset, .unset, .unset] [(.int v27)])) X155 (by
        by_cases hc82_26 : (v23 % (1 : Int32)) = (0 : Int32)
        · have hgo157 : ∀ t, Steps p.tables e below (T155.setTop (mkF m 90 #[.val (.int p0), .val (.int p1), .val (.int v1), .val (.ref u_FilterKind_URL_LAYERS), .val (.long (-1 : Int64)), .second, .val (.int (1 : Int32)), .val (.int v23), .val (.int v25), .unset, .unset, .unset] [(.int (1 : Int32))])) t → Steps p.tables e below (T155.setTop (mkF m 82 #[.val (.int p0), .val (.int p1), .val (.int v1), .val (.ref u_FilterKind_URL_LAYERS), .val (.long (-1 : Int64)), .second, .val (.int (1 : Int32)), .val (.int v23), .val (.int v25), .unset, .unset, .unset] [(.int (v23 % (1 : Int32)))])) t := by
            intro t kt
            show Steps p.tables e below (T155.setTop (mkF m 82 #[.val (.int p0), .val (.int p1), .val (.int v1), .val (.ref u_FilterKind_URL_LAYERS), .val (.long (-1 : Int64)), .second, .val (.int (1 : Int32)), .val (.int v23), .val (.int v25), .unset, .unset, .unset] [(.int (v23 % (1 : Int32)))])) _
            refine XS.ifNo X155.here hx rfl (hb hby at_82) rfl ((if0 _ _).trans (teq hc82_26).2) ?_
            show Steps p.tables e below (T155.setTop (mkF m 85 #[.val (.int p0), .val (.int p1), .val (.int v1), .val (.ref u_FilterKind_URL_LAYERS), .val (.long (-1 : Int64)), .second, .val (.int (1 : Int32)), .val (.int v23), .val (.int v25), .unset, .unset, .unset] [])) _
            refine XS.iconst X155.here hx rfl (hb hby at_85) ?_
            show Steps p.tables e below (T155.setTop (mkF m 86 #[.val (.int p0), .val (.int p1), .val (.int v1), .val (.ref u_FilterKind_URL_LAYERS), .val (.long (-1 : Int64)), .second, .val (.int (1 : Int32)), .val (.int v23), .val (.int v25), .unset, .unset, .unset] [(.int (1 : Int32))])) _
            refine XS.goto X155.here hx rfl (pc0 := 86) (pc' := 90) rfl (hb hby at_86) (by decide) (by decide) ?_
            exact kt
          refine own_arm hgo157 ?_
          exact own_armEnd X155 N155 e155 (by rw [hv27.trans (if_pos hc82_26)])
        · have hgo158 : ∀ t, Steps p.tables e below (T155.setTop (mkF m 90 #[.val (.int p0), .val (.int p1), .val (.int v1), .val (.ref u_FilterKind_URL_LAYERS), .val (.long (-1 : Int64)), .second, .val (.int (1 : Int32)), .val (.int v23), .val (.int v25), .unset, .unset, .unset] [(.int (0 : Int32))])) t → Steps p.tables e below (T155.setTop (mkF m 82 #[.val (.int p0), .val (.int p1), .val (.int v1), .val (.ref u_FilterKind_URL_LAYERS), .val (.long (-1 : Int64)), .second, .val (.int (1 : Int32)), .val (.int v23), .val (.int v25), .unset, .unset, .unset] [(.int (v23 % (1 : Int32)))])) t := by
            intro t kt
            show Steps p.tables e below (T155.setTop (mkF m 82 #[.val (.int p0), .val (.int p1), .val (.int v1), .val (.ref u_FilterKind_URL_LAYERS), .val (.long (-1 : Int64)), .second, .val (.int (1 : Int32)), .val (.int v23), .val (.int v25), .unset, .unset, .unset] [(.int (v23 % (1 : Int32)))])) _
            refine XS.ifYes X155.here hx rfl (pc0 := 82) (pc' := 89) rfl (hb hby at_82) rfl ((if0 _ _).trans (feq hc82_26).2) (by decide) (by decide) ?_
            show Steps p.tables e below (T155.setTop (mkF m 89 #[.val (.int p0), .val (.int p1), .val (.int v1), .val (.ref u_FilterKind_URL_LAYERS), .val (.long (-1 : Int64)), .second, .val (.int (1 : Int32)), .val (.int v23), .val (.int v25), .unset, .unset, .unset] [])) _
            refine XS.iconst X155.here hx rfl (hb hby at_89) ?_
            exact kt
          refine own_arm hgo158 ?_
          exact own_armEnd X155 N155 e155 (by rw [hv27.trans (if_neg hc82_26)]))
      obtain ⟨v30, hv30⟩ : ∃ z : Int32, z = (if (-1 : Int64) = (-1 : Int64) then (1 : Int32) else (0 : Int32)) := ⟨_, rfl⟩
      obtain ⟨v31, hv31⟩ : ∃ z : Int32, z = (if v25 = v27 then v30 else (0 : Int32)) := ⟨_, rfl⟩
      obtain ⟨T165, lc165, X165, N165, e165, st165⟩ := own_mrg (n0 := n0) (h := h0) (g := (mkF m 112 #[.val (.int p0), .val (.int p1), .val (.int v1), .val (.ref u_FilterKind_URL_LAYERS), .val (.long (-1 : Int64)), .second, .val (.int (1 : Int32)), .val (.int v23), .val (.int v25), .val (.int v27), .val (.long (-1 : Int64)), .second] [(.int v27), (.int v25)])) (g' := (mkF m 128 #[.val (.int p0), .val (.int p1), .val (.int v1), .val (.ref u_FilterKind_URL_LAYERS), .val (.long (-1 : Int64)), .second, .val (.int (1 : Int32)), .val (.int v23), .val (.int v25), .val (.int v27), .val (.long (-1 : Int64)), .second] [(.int v31)])) X159 (by
        by_cases hc112_28 : v25 = v27
        · obtain ⟨T162, lc162, X162, N162, e162, st162⟩ := own_mrg (n0 := n0) (h := h0) (g := (mkF m 120 #[.val (.int p0), .val (.int p1), .val (.int v1), .val (.ref u_FilterKind_URL_LAYERS), .val (.long (-1 : Int64)), .second, .val (.int (1 : Int32)), .val (.int v23), .val (.int v25), .val (.int v27), .val (.long (-1 : Int64)), .second] [(.int (lcmpW (-1 : Int64) (-1 : Int64)))])) (g' := (mkF m 128 #[.val (.int p0), .val (.int p1), .val (.int v1), .val (.ref u_FilterKind_URL_LAYERS), .val (.long (-1 : Int64)), .second, .val (.int (1 : Int32)), .val (.int v23), .val (.int v25), .val (.int v27), .val (.long (-1 : Int64)), .second] [(.int v30)])) X159 (by
            by_cases hc120_29 : (-1 : Int64) = (-1 : Int64)
            · have hgo160 : ∀ t, Steps p.tables e below (T159.setTop (mkF m 128 #[.val (.int p0), .val (.int p1), .val (.int v1), .val (.ref u_FilterKind_URL_LAYERS), .val (.long (-1 : Int64)), .second, .val (.int (1 : Int32)), .val (.int v23), .val (.int v25), .val (.int v27), .val (.long (-1 : Int64)), .second] [(.int (1 : Int32))])) t → Steps p.tables e below (T159.setTop (mkF m 120 #[.val (.int p0), .val (.int p1), .val (.int v1), .val (.ref u_FilterKind_URL_LAYERS), .val (.long (-1 : Int64)), .second, .val (.int (1 : Int32)), .val (.int v23), .val (.int v25), .val (.int v27), .val (.long (-1 : Int64)), .second] [(.int (lcmpW (-1 : Int64) (-1 : Int64)))])) t := by
                intro t kt
                show Steps p.tables e below (T159.setTop (mkF m 120 #[.val (.int p0), .val (.int p1), .val (.int v1), .val (.ref u_FilterKind_URL_LAYERS), .val (.long (-1 : Int64)), .second, .val (.int (1 : Int32)), .val (.int v23), .val (.int v25), .val (.int v27), .val (.long (-1 : Int64)), .second] [(.int (lcmpW (-1 : Int64) (-1 : Int64)))])) _
                refine XS.ifNo X159.here hx rfl (hb hby at_120) rfl ((if0 _ _).trans (teq (own_lc_eq hc120_29)).2) ?_
                show Steps p.tables e below (T159.setTop (mkF m 123 #[.val (.int p0), .val (.int p1), .val (.int v1), .val (.ref u_FilterKind_URL_LAYERS), .val (.long (-1 : Int64)), .second, .val (.int (1 : Int32)), .val (.int v23), .val (.int v25), .val (.int v27), .val (.long (-1 : Int64)), .second] [])) _
                refine XS.iconst X159.here hx rfl (hb hby at_123) ?_
                show Steps p.tables e below (T159.setTop (mkF m 124 #[.val (.int p0), .val (.int p1), .val (.int v1), .val (.ref u_FilterKind_URL_LAYERS), .val (.long (-1 : Int64)), .second, .val (.int (1 : Int32)), .val (.int v23), .val (.int v25), .val (.int v27), .val (.long (-1 : Int64)), .second] [(.int (1 : Int32))])) _
                refine XS.goto X159.here hx rfl (pc0 := 124) (pc' := 128) rfl (hb hby at_124) (by decide) (by decide) ?_
                exact kt
              refine own_arm hgo160 ?_
              exact own_armEnd X159 N159 e159 (by rw [hv30.trans (if_pos hc120_29)])
            · have hgo161 : ∀ t, Steps p.tables e below (T159.setTop (mkF m 128 #[.val (.int p0), .val (.int p1), .val (.int v1), .val (.ref u_FilterKind_URL_LAYERS), .val (.long (-1 : Int64)), .second, .val (.int (1 : Int32)), .val (.int v23), .val (.int v25), .val (.int v27), .val (.long (-1 : Int64)), .second] [(.int (0 : Int32))])) t → Steps p.tables e below (T159.setTop (mkF m 120 #[.val (.int p0), .val (.int p1), .val (.int v1), .val (.ref u_FilterKind_URL_LAYERS), .val (.long (-1 : Int64)), .second, .val (.int (1 : Int32)), .val (.int v23), .val (.int v25), .val (.int v27), .val (.long (-1 : Int64)), .second] [(.int (lcmpW (-1 : Int64) (-1 : Int64)))])) t := by
                intro t kt
                show Steps p.tables e below (T159.setTop (mkF m 120 #[.val (.int p0), .val (.int p1), .val (.int v1), .val (.ref u_FilterKind_URL_LAYERS), .val (.long (-1 : Int64)), .second, .val (.int (1 : Int32)), .val (.int v23), .val (.int v25), .val (.int v27), .val (.long (-1 : Int64)), .second] [(.int (lcmpW (-1 : Int64) (-1 : Int64)))])) _
                refine XS.ifYes X159.here hx rfl (pc0 := 120) (pc' := 127) rfl (hb hby at_120) rfl ((if0 _ _).trans (feq (own_lc_neq hc120_29)).2) (by decide) (by decide) ?_
                show Steps p.tables e below (T159.setTop (mkF m 127 #[.val (.int p0), .val (.int p1), .val (.int v1), .val (.ref u_FilterKind_URL_LAYERS), .val (.long (-1 : Int64)), .second, .val (.int (1 : Int32)), .val (.int v23), .val (.int v25), .val (.int v27), .val (.long (-1 : Int64)), .second] [])) _
                refine XS.iconst X159.here hx rfl (hb hby at_127) ?_
                exact kt
              refine own_arm hgo161 ?_
              exact own_armEnd X159 N159 e159 (by rw [hv30.trans (if_neg hc120_29)]))
          have hgo163 : ∀ t, Steps p.tables e below (T162.setTop (mkF m 128 #[.val (.int p0), .val (.int p1), .val (.int v1), .val (.ref u_FilterKind_URL_LAYERS), .val (.long (-1 : Int64)), .second, .val (.int (1 : Int32)), .val (.int v23), .val (.int v25), .val (.int v27), .val (.long (-1 : Int64)), .second] [(.int v30)])) t → Steps p.tables e below (T159.setTop (mkF m 112 #[.val (.int p0), .val (.int p1), .val (.int v1), .val (.ref u_FilterKind_URL_LAYERS), .val (.long (-1 : Int64)), .second, .val (.int (1 : Int32)), .val (.int v23), .val (.int v25), .val (.int v27), .val (.long (-1 : Int64)), .second] [(.int v27), (.int v25)])) t := by
            intro t kt
            show Steps p.tables e below (T159.setTop (mkF m 112 #[.val (.int p0), .val (.int p1), .val (.int v1), .val (.ref u_FilterKind_URL_LAYERS), .val (.long (-1 : Int64)), .second, .val (.int (1 : Int32)), .val (.int v23), .val (.int v25), .val (.int v27), .val (.long (-1 : Int64)), .second] [(.int v27), (.int v25)])) _
            refine XS.icmpNo X159.here hx rfl (hb hby at_112) rfl (teq hc112_28).2 ?_
            show Steps p.tables e below (T159.setTop (mkF m 115 #[.val (.int p0), .val (.int p1), .val (.int v1), .val (.ref u_FilterKind_URL_LAYERS), .val (.long (-1 : Int64)), .second, .val (.int (1 : Int32)), .val (.int v23), .val (.int v25), .val (.int v27), .val (.long (-1 : Int64)), .second] [])) _
            refine XS.lload X159.here hx rfl (hb hby at_115) rfl ?_
            show Steps p.tables e below (T159.setTop (mkF m 117 #[.val (.int p0), .val (.int p1), .val (.int v1), .val (.ref u_FilterKind_URL_LAYERS), .val (.long (-1 : Int64)), .second, .val (.int (1 : Int32)), .val (.int v23), .val (.int v25), .val (.int v27), .val (.long (-1 : Int64)), .second] [(.long (-1 : Int64))])) _
            refine XS.lload X159.here hx rfl (hb hby at_117) rfl ?_
            show Steps p.tables e below (T159.setTop (mkF m 119 #[.val (.int p0), .val (.int p1), .val (.int v1), .val (.ref u_FilterKind_URL_LAYERS), .val (.long (-1 : Int64)), .second, .val (.int (1 : Int32)), .val (.int v23), .val (.int v25), .val (.int v27), .val (.long (-1 : Int64)), .second] [(.long (-1 : Int64)), (.long (-1 : Int64))])) _
            refine XS.lcmp X159.here hx rfl (hb hby at_119) rfl ?_
            show Steps p.tables e below (T159.setTop (mkF m 120 #[.val (.int p0), .val (.int p1), .val (.int v1), .val (.ref u_FilterKind_URL_LAYERS), .val (.long (-1 : Int64)), .second, .val (.int (1 : Int32)), .val (.int v23), .val (.int v25), .val (.int v27), .val (.long (-1 : Int64)), .second] [(.int (lcmpW (-1 : Int64) (-1 : Int64)))])) _
            refine st162 _ ?_
            exact kt
          refine own_arm hgo163 ?_
          exact own_armEnd X162 N162 e162 (by rw [hv31.trans (if_pos hc112_28)])
        · have hgo164 : ∀ t, Steps p.tables e below (T159.setTop (mkF m 128 #[.val (.int p0), .val (.int p1), .val (.int v1), .val (.ref u_FilterKind_URL_LAYERS), .val (.long (-1 : Int64)), .second, .val (.int (1 : Int32)), .val (.int v23), .val (.int v25), .val (.int v27), .val (.long (-1 : Int64)), .second] [(.int (0 : Int32))])) t → Steps p.tables e below (T159.setTop (mkF m 112 #[.val (.int p0), .val (.int p1), .val (.int v1), .val (.ref u_FilterKind_URL_LAYERS), .val (.long (-1 : Int64)), .second, .val (.int (1 : Int32)), .val (.int v23), .val (.int v25), .val (.int v27), .val (.long (-1 : Int64)), .second] [(.int v27), (.int v25)])) t := by
            intro t kt
            show Steps p.tables e below (T159.setTop (mkF m 112 #[.val (.int p0), .val (.int p1), .val (.int v1), .val (.ref u_FilterKind_URL_LAYERS), .val (.long (-1 : Int64)), .second, .val (.int (1 : Int32)), .val (.int v23), .val (.int v25), .val (.int v27), .val (.long (-1 : Int64)), .second] [(.int v27), (.int v25)])) _
            refine XS.icmpYes X159.here hx rfl (pc0 := 112) (pc' := 127) rfl (hb hby at_112) rfl (feq hc112_28).2 (by decide) (by decide) ?_
            show Steps p.tables e below (T159.setTop (mkF m 127 #[.val (.int p0), .val (.int p1), .val (.int v1), .val (.ref u_FilterKind_URL_LAYERS), .val (.long (-1 : Int64)), .second, .val (.int (1 : Int32)), .val (.int v23), .val (.int v25), .val (.int v27), .val (.long (-1 : Int64)), .second] [])) _
            refine XS.iconst X159.here hx rfl (hb hby at_127) ?_
            exact kt
          refine own_arm hgo164 ?_
          exact own_armEnd X159 N159 e159 (by rw [hv31.trans (if_neg hc112_28)]))
      have hgo166 : ∀ t, Steps p.tables e below (T165.setTop (mkF m 128 #[.val (.int p0), .val (.int p1), .val (.int v1), .val (.ref u_FilterKind_URL_LAYERS), .val (.long (-1 : Int64)), .second, .val (.int (1 : Int32)), .val (.int v23), .val (.int v25), .val (.int v27), .val (.long (-1 : Int64)), .second] [(.int v31)])) t → Steps p.tables e below (s₁.setTop (mkF m 19 #[.val (.int p0), .val (.int p1), .val (.int v1), .unset, .unset, .unset, .unset, .unset, .unset, .unset, .unset, .unset] [(.int (1 : Int32)), (.int v1)])) t := by
        intro t kt
        show Steps p.tables e below (s₁.setTop (mkF m 19 #[.val (.int p0), .val (.int p1), .val (.int v1), .unset, .unset, .unset, .unset, .unset, .unset, .unset, .unset, .unset] [(.int (1 : Int32)), (.int v1)])) _
        refine XS.icmpYes X0.here hx rfl (pc0 := 19) (pc' := 28) rfl (hb hby at_19) rfl (feq hc19_13).2 (by decide) (by decide) ?_
        show Steps p.tables e below (s₁.setTop (mkF m 28 #[.val (.int p0), .val (.int p1), .val (.int v1), .unset, .unset, .unset, .unset, .unset, .unset, .unset, .unset, .unset] [])) _
        refine st150 _ ?_
        show Steps p.tables e below (T150.setTop (mkF m 31 #[.val (.int p0), .val (.int p1), .val (.int v1), .unset, .unset, .unset, .unset, .unset, .unset, .unset, .unset, .unset] [(.ref u_FilterKind_URL_LAYERS)])) _
        refine XS.astoreN X150.here hx rfl (hb hby at_31) rfl rfl (l' := #[.val (.int p0), .val (.int p1), .val (.int v1), .val (.ref u_FilterKind_URL_LAYERS), .unset, .unset, .unset, .unset, .unset, .unset, .unset, .unset]) rfl ?_
        show Steps p.tables e below (T150.setTop (mkF m 32 #[.val (.int p0), .val (.int p1), .val (.int v1), .val (.ref u_FilterKind_URL_LAYERS), .unset, .unset, .unset, .unset, .unset, .unset, .unset, .unset] [])) _
        refine XS.aloadN X150.here hx rfl (hb hby at_32) rfl rfl ?_
        show Steps p.tables e below (T150.setTop (mkF m 33 #[.val (.int p0), .val (.int p1), .val (.int v1), .val (.ref u_FilterKind_URL_LAYERS), .unset, .unset, .unset, .unset, .unset, .unset, .unset, .unset] [(.ref u_FilterKind_URL_LAYERS)])) _
        refine st151.trans ?_
        show Steps p.tables e below (T151.setTop (mkF m 36 #[.val (.int p0), .val (.int p1), .val (.int v1), .val (.ref u_FilterKind_URL_LAYERS), .unset, .unset, .unset, .unset, .unset, .unset, .unset, .unset] [(.long (-1 : Int64))])) _
        refine XS.lstore X151.here hx rfl (hb hby at_36) rfl (l' := #[.val (.int p0), .val (.int p1), .val (.int v1), .val (.ref u_FilterKind_URL_LAYERS), .val (.long (-1 : Int64)), .second, .unset, .unset, .unset, .unset, .unset, .unset]) rfl ?_
        show Steps p.tables e below (T151.setTop (mkF m 38 #[.val (.int p0), .val (.int p1), .val (.int v1), .val (.ref u_FilterKind_URL_LAYERS), .val (.long (-1 : Int64)), .second, .unset, .unset, .unset, .unset, .unset, .unset] [])) _
        refine XS.aloadN X151.here hx rfl (hb hby at_38) rfl rfl ?_
        show Steps p.tables e below (T151.setTop (mkF m 39 #[.val (.int p0), .val (.int p1), .val (.int v1), .val (.ref u_FilterKind_URL_LAYERS), .val (.long (-1 : Int64)), .second, .unset, .unset, .unset, .unset, .unset, .unset] [(.ref u_FilterKind_URL_LAYERS)])) _
        refine st152.trans ?_
        show Steps p.tables e below (T152.setTop (mkF m 42 #[.val (.int p0), .val (.int p1), .val (.int v1), .val (.ref u_FilterKind_URL_LAYERS), .val (.long (-1 : Int64)), .second, .unset, .unset, .unset, .unset, .unset, .unset] [(.int (1 : Int32))])) _
        refine XS.istore X152.here hx rfl (hb hby at_42) rfl (l' := #[.val (.int p0), .val (.int p1), .val (.int v1), .val (.ref u_FilterKind_URL_LAYERS), .val (.long (-1 : Int64)), .second, .val (.int (1 : Int32)), .unset, .unset, .unset, .unset, .unset]) rfl ?_
        show Steps p.tables e below (T152.setTop (mkF m 44 #[.val (.int p0), .val (.int p1), .val (.int v1), .val (.ref u_FilterKind_URL_LAYERS), .val (.long (-1 : Int64)), .second, .val (.int (1 : Int32)), .unset, .unset, .unset, .unset, .unset] [])) _
        refine XS.iload X152.here hx rfl (hb hby at_44) rfl ?_
        show Steps p.tables e below (T152.setTop (mkF m 46 #[.val (.int p0), .val (.int p1), .val (.int v1), .val (.ref u_FilterKind_URL_LAYERS), .val (.long (-1 : Int64)), .second, .val (.int (1 : Int32)), .unset, .unset, .unset, .unset, .unset] [(.int (1 : Int32))])) _
        refine XS.iconst X152.here hx rfl (hb hby at_46) ?_
        show Steps p.tables e below (T152.setTop (mkF m 47 #[.val (.int p0), .val (.int p1), .val (.int v1), .val (.ref u_FilterKind_URL_LAYERS), .val (.long (-1 : Int64)), .second, .val (.int (1 : Int32)), .unset, .unset, .unset, .unset, .unset] [(.int (1 : Int32)), (.int (1 : Int32))])) _
        refine XS.icmpYes X152.here hx rfl (pc0 := 47) (pc' := 52) rfl (hb hby at_47) rfl (flt (by decide : ¬ ((1 : Int32) < (1 : Int32)))).2.1 (by decide) (by decide) ?_
        show Steps p.tables e below (T152.setTop (mkF m 52 #[.val (.int p0), .val (.int p1), .val (.int v1), .val (.ref u_FilterKind_URL_LAYERS), .val (.long (-1 : Int64)), .second, .val (.int (1 : Int32)), .unset, .unset, .unset, .unset, .unset] [])) _
        refine XS.iloadN X152.here hx rfl (hb hby at_52) rfl ?_
        show Steps p.tables e below (T152.setTop (mkF m 53 #[.val (.int p0), .val (.int p1), .val (.int v1), .val (.ref u_FilterKind_URL_LAYERS), .val (.long (-1 : Int64)), .second, .val (.int (1 : Int32)), .unset, .unset, .unset, .unset, .unset] [(.int p1)])) _
        refine XS.bipush X152.here hx rfl (hb hby at_53) ?_
        show Steps p.tables e below (T152.setTop (mkF m 55 #[.val (.int p0), .val (.int p1), .val (.int v1), .val (.ref u_FilterKind_URL_LAYERS), .val (.long (-1 : Int64)), .second, .val (.int (1 : Int32)), .unset, .unset, .unset, .unset, .unset] [(.int (63 : Int32)), (.int p1)])) _
        refine XS.iand X152.here hx rfl (hb hby at_55) rfl ?_
        show Steps p.tables e below (T152.setTop (mkF m 56 #[.val (.int p0), .val (.int p1), .val (.int v1), .val (.ref u_FilterKind_URL_LAYERS), .val (.long (-1 : Int64)), .second, .val (.int (1 : Int32)), .unset, .unset, .unset, .unset, .unset] [(.int (p1 &&& (63 : Int32)))])) _
        rw [← hv23]
        show Steps p.tables e below (T152.setTop (mkF m 56 #[.val (.int p0), .val (.int p1), .val (.int v1), .val (.ref u_FilterKind_URL_LAYERS), .val (.long (-1 : Int64)), .second, .val (.int (1 : Int32)), .unset, .unset, .unset, .unset, .unset] [(.int v23)])) _
        refine XS.istore X152.here hx rfl (hb hby at_56) rfl (l' := #[.val (.int p0), .val (.int p1), .val (.int v1), .val (.ref u_FilterKind_URL_LAYERS), .val (.long (-1 : Int64)), .second, .val (.int (1 : Int32)), .val (.int v23), .unset, .unset, .unset, .unset]) rfl ?_
        show Steps p.tables e below (T152.setTop (mkF m 58 #[.val (.int p0), .val (.int p1), .val (.int v1), .val (.ref u_FilterKind_URL_LAYERS), .val (.long (-1 : Int64)), .second, .val (.int (1 : Int32)), .val (.int v23), .unset, .unset, .unset, .unset] [])) _
        refine XS.lload X152.here hx rfl (hb hby at_58) rfl ?_
        show Steps p.tables e below (T152.setTop (mkF m 60 #[.val (.int p0), .val (.int p1), .val (.int v1), .val (.ref u_FilterKind_URL_LAYERS), .val (.long (-1 : Int64)), .second, .val (.int (1 : Int32)), .val (.int v23), .unset, .unset, .unset, .unset] [(.long (-1 : Int64))])) _
        refine XS.iload X152.here hx rfl (hb hby at_60) rfl ?_
        show Steps p.tables e below (T152.setTop (mkF m 62 #[.val (.int p0), .val (.int p1), .val (.int v1), .val (.ref u_FilterKind_URL_LAYERS), .val (.long (-1 : Int64)), .second, .val (.int (1 : Int32)), .val (.int v23), .unset, .unset, .unset, .unset] [(.int v23), (.long (-1 : Int64))])) _
        refine XS.lushr X152.here hx rfl (hb hby at_62) rfl ?_
        show Steps p.tables e below (T152.setTop (mkF m 63 #[.val (.int p0), .val (.int p1), .val (.int v1), .val (.ref u_FilterKind_URL_LAYERS), .val (.long (-1 : Int64)), .second, .val (.int (1 : Int32)), .val (.int v23), .unset, .unset, .unset, .unset] [(.long (((-1 : Int64).toUInt64 >>> (v23 &&& 0x3f).toInt64.toUInt64).toInt64))])) _
        refine XS.lconst X152.here hx rfl (hb hby at_63) ?_
        show Steps p.tables e below (T152.setTop (mkF m 64 #[.val (.int p0), .val (.int p1), .val (.int v1), .val (.ref u_FilterKind_URL_LAYERS), .val (.long (-1 : Int64)), .second, .val (.int (1 : Int32)), .val (.int v23), .unset, .unset, .unset, .unset] [(.long (1 : Int64)), (.long (((-1 : Int64).toUInt64 >>> (v23 &&& 0x3f).toInt64.toUInt64).toInt64))])) _
        refine XS.land X152.here hx rfl (hb hby at_64) rfl ?_
        show Steps p.tables e below (T152.setTop (mkF m 65 #[.val (.int p0), .val (.int p1), .val (.int v1), .val (.ref u_FilterKind_URL_LAYERS), .val (.long (-1 : Int64)), .second, .val (.int (1 : Int32)), .val (.int v23), .unset, .unset, .unset, .unset] [(.long ((((-1 : Int64).toUInt64 >>> (v23 &&& 0x3f).toInt64.toUInt64).toInt64) &&& (1 : Int64)))])) _
        refine XS.lconst X152.here hx rfl (hb hby at_65) ?_
        show Steps p.tables e below (T152.setTop (mkF m 66 #[.val (.int p0), .val (.int p1), .val (.int v1), .val (.ref u_FilterKind_URL_LAYERS), .val (.long (-1 : Int64)), .second, .val (.int (1 : Int32)), .val (.int v23), .unset, .unset, .unset, .unset] [(.long (0 : Int64)), (.long ((((-1 : Int64).toUInt64 >>> (v23 &&& 0x3f).toInt64.toUInt64).toInt64) &&& (1 : Int64)))])) _
        refine XS.lcmp X152.here hx rfl (hb hby at_66) rfl ?_
        show Steps p.tables e below (T152.setTop (mkF m 67 #[.val (.int p0), .val (.int p1), .val (.int v1), .val (.ref u_FilterKind_URL_LAYERS), .val (.long (-1 : Int64)), .second, .val (.int (1 : Int32)), .val (.int v23), .unset, .unset, .unset, .unset] [(.int (lcmpW ((((-1 : Int64).toUInt64 >>> (v23 &&& 0x3f).toInt64.toUInt64).toInt64) &&& (1 : Int64)) (0 : Int64)))])) _
        refine st155 _ ?_
        show Steps p.tables e below (T155.setTop (mkF m 75 #[.val (.int p0), .val (.int p1), .val (.int v1), .val (.ref u_FilterKind_URL_LAYERS), .val (.long (-1 : Int64)), .second, .val (.int (1 : Int32)), .val (.int v23), .unset, .unset, .unset, .unset] [(.int v25)])) _
        refine XS.istore X155.here hx rfl (hb hby at_75) rfl (l' := #[.val (.int p0), .val (.int p1), .val (.int v1), .val (.ref u_FilterKind_URL_LAYERS), .val (.long (-1 : Int64)), .second, .val (.int (1 : Int32)), .val (.int v23), .val (.int v25), .unset, .unset, .unset]) rfl ?_
        show Steps p.tables e below (T155.setTop (mkF m 77 #[.val (.int p0), .val (.int p1), .val (.int v1), .val (.ref u_FilterKind_URL_LAYERS), .val (.long (-1 : Int64)), .second, .val (.int (1 : Int32)), .val (.int v23), .val (.int v25), .unset, .unset, .unset] [])) _
        refine XS.iload X155.here hx rfl (hb hby at_77) rfl ?_
        show Steps p.tables e below (T155.setTop (mkF m 79 #[.val (.int p0), .val (.int p1), .val (.int v1), .val (.ref u_FilterKind_URL_LAYERS), .val (.long (-1 : Int64)), .second, .val (.int (1 : Int32)), .val (.int v23), .val (.int v25), .unset, .unset, .unset] [(.int v23)])) _
        refine XS.iload X155.here hx rfl (hb hby at_79) rfl ?_
        show Steps p.tables e below (T155.setTop (mkF m 81 #[.val (.int p0), .val (.int p1), .val (.int v1), .val (.ref u_FilterKind_URL_LAYERS), .val (.long (-1 : Int64)), .second, .val (.int (1 : Int32)), .val (.int v23), .val (.int v25), .unset, .unset, .unset] [(.int (1 : Int32)), (.int v23)])) _
        refine XS.irem X155.here hx rfl (hb hby at_81) rfl hnz81_156 ?_
        rw [own_remI v23 (1 : Int32)]
        show Steps p.tables e below (T155.setTop (mkF m 82 #[.val (.int p0), .val (.int p1), .val (.int v1), .val (.ref u_FilterKind_URL_LAYERS), .val (.long (-1 : Int64)), .second, .val (.int (1 : Int32)), .val (.int v23), .val (.int v25), .unset, .unset, .unset] [(.int (v23 % (1 : Int32)))])) _
        refine st159 _ ?_
        show Steps p.tables e below (T159.setTop (mkF m 90 #[.val (.int p0), .val (.int p1), .val (.int v1), .val (.ref u_FilterKind_URL_LAYERS), .val (.long (-1 : Int64)), .second, .val (.int (1 : Int32)), .val (.int v23), .val (.int v25), .unset, .unset, .unset] [(.int v27)])) _
        refine XS.istore X159.here hx rfl (hb hby at_90) rfl (l' := #[.val (.int p0), .val (.int p1), .val (.int v1), .val (.ref u_FilterKind_URL_LAYERS), .val (.long (-1 : Int64)), .second, .val (.int (1 : Int32)), .val (.int v23), .val (.int v25), .val (.int v27), .unset, .unset]) rfl ?_
        show Steps p.tables e below (T159.setTop (mkF m 92 #[.val (.int p0), .val (.int p1), .val (.int v1), .val (.ref u_FilterKind_URL_LAYERS), .val (.long (-1 : Int64)), .second, .val (.int (1 : Int32)), .val (.int v23), .val (.int v25), .val (.int v27), .unset, .unset] [])) _
        refine XS.iloadN X159.here hx rfl (hb hby at_92) rfl ?_
        show Steps p.tables e below (T159.setTop (mkF m 93 #[.val (.int p0), .val (.int p1), .val (.int v1), .val (.ref u_FilterKind_URL_LAYERS), .val (.long (-1 : Int64)), .second, .val (.int (1 : Int32)), .val (.int v23), .val (.int v25), .val (.int v27), .unset, .unset] [(.int v1)])) _
        refine XS.iconst X159.here hx rfl (hb hby at_93) ?_
        show Steps p.tables e below (T159.setTop (mkF m 94 #[.val (.int p0), .val (.int p1), .val (.int v1), .val (.ref u_FilterKind_URL_LAYERS), .val (.long (-1 : Int64)), .second, .val (.int (1 : Int32)), .val (.int v23), .val (.int v25), .val (.int v27), .unset, .unset] [(.int (1 : Int32)), (.int v1)])) _
        refine XS.icmpYes X159.here hx rfl (pc0 := 94) (pc' := 103) rfl (hb hby at_94) rfl (feq hc19_13).2 (by decide) (by decide) ?_
        show Steps p.tables e below (T159.setTop (mkF m 103 #[.val (.int p0), .val (.int p1), .val (.int v1), .val (.ref u_FilterKind_URL_LAYERS), .val (.long (-1 : Int64)), .second, .val (.int (1 : Int32)), .val (.int v23), .val (.int v25), .val (.int v27), .unset, .unset] [])) _
        refine X159.ldc2Long hx hown (mvT hZ (hw _ (List.mem_of_getElem? (i := 16) rfl))) (g := (mkF m 103 #[.val (.int p0), .val (.int p1), .val (.int v1), .val (.ref u_FilterKind_URL_LAYERS), .val (.long (-1 : Int64)), .second, .val (.int (1 : Int32)), .val (.int v23), .val (.int v25), .val (.int v27), .unset, .unset] [])) rfl (hb hby at_103) _ ?_
        show Steps p.tables e below (T159.setTop (mkF m 106 #[.val (.int p0), .val (.int p1), .val (.int v1), .val (.ref u_FilterKind_URL_LAYERS), .val (.long (-1 : Int64)), .second, .val (.int (1 : Int32)), .val (.int v23), .val (.int v25), .val (.int v27), .unset, .unset] [(.long (-1 : Int64))])) _
        refine XS.lstore X159.here hx rfl (hb hby at_106) rfl (l' := #[.val (.int p0), .val (.int p1), .val (.int v1), .val (.ref u_FilterKind_URL_LAYERS), .val (.long (-1 : Int64)), .second, .val (.int (1 : Int32)), .val (.int v23), .val (.int v25), .val (.int v27), .val (.long (-1 : Int64)), .second]) rfl ?_
        show Steps p.tables e below (T159.setTop (mkF m 108 #[.val (.int p0), .val (.int p1), .val (.int v1), .val (.ref u_FilterKind_URL_LAYERS), .val (.long (-1 : Int64)), .second, .val (.int (1 : Int32)), .val (.int v23), .val (.int v25), .val (.int v27), .val (.long (-1 : Int64)), .second] [])) _
        refine XS.iload X159.here hx rfl (hb hby at_108) rfl ?_
        show Steps p.tables e below (T159.setTop (mkF m 110 #[.val (.int p0), .val (.int p1), .val (.int v1), .val (.ref u_FilterKind_URL_LAYERS), .val (.long (-1 : Int64)), .second, .val (.int (1 : Int32)), .val (.int v23), .val (.int v25), .val (.int v27), .val (.long (-1 : Int64)), .second] [(.int v25)])) _
        refine XS.iload X159.here hx rfl (hb hby at_110) rfl ?_
        show Steps p.tables e below (T159.setTop (mkF m 112 #[.val (.int p0), .val (.int p1), .val (.int v1), .val (.ref u_FilterKind_URL_LAYERS), .val (.long (-1 : Int64)), .second, .val (.int (1 : Int32)), .val (.int v23), .val (.int v25), .val (.int v27), .val (.long (-1 : Int64)), .second] [(.int v27), (.int v25)])) _
        refine st165 _ ?_
        exact kt
      refine own_go hgo166 ?_
      have hz167 : v31 = 1 := own_leaf2 (p0 := p0) (p1 := p1) (u_FilterKind_SEEN := u_FilterKind_SEEN) (u_FilterKind_URL_LAYERS := u_FilterKind_URL_LAYERS) (u_FilterKind_COUNTING := u_FilterKind_COUNTING) hv1 hv23 hv25 hv27 hv30 hv31 hc8_2 hc19_13
      exact own_retZ X165 hx Bd.returns Bd.notSynchronized (hb hby at_128) (by decide) (by decide) (Or.inr hz167) ⟨by rw [hz167], N165⟩
set_option maxRecDepth 65536 in
set_option maxHeartbeats 40000000 in
theorem comes_1 {Post : Tables → Env → Array Value → State → Outcome → State → Prop} (hpost : ∀ tb e args s v u, (limb_1_1.after args s (.returned v) u = true ∧ limb_1_2.after args s (.returned v) u = true ∧ True) → FrameEnd s (.returned v) u (Jvm.fieldLocs frame_1_writes args s ++ Jvm.arrayLocs frame_1_arrays args s ++ Jvm.staticLocs frame_1_statics s) 0 0 → Post tb e args s (.returned v) u) :
    ArmFor flags0 classFile x code maxLocals ret World_1 tables_1 room_1 Calls_1 rest_1 Pre_1 Post := by
  intro l hfl _ _ p e ha hc hk s m args below hf hA hF happ hP
  obtain ⟨hcalls, hrest, hpre⟩ := hP
  obtain ⟨-, -, -, hnamed, -, -, -, hat⟩ := (Spec.applies_iff hf).mp happ
  obtain ⟨hg, hn⟩ := and_e (Cond.before_iff.mp (show (Jvm.Cond.and given_1 narrow_1).before args s = true from hpre))
  obtain ⟨gg1, gg2⟩ := and_e hg
  obtain ⟨gg3, gg4⟩ := and_e gg2
  obtain ⟨gg5, gg6⟩ := and_e hn
  obtain ⟨gg7, gg8⟩ := and_e gg6
  obtain ⟨gg9, gg10⟩ := and_e gg8
  obtain ⟨gg11, gg12⟩ := and_e gg10
  obtain ⟨gg13, gg14⟩ := and_e gg12
  obtain ⟨w0, w1, rfl⟩ : ∃ w0 w1 : Value, args = #[w0, w1] := by
    have hs : args.size = 2 := by simpa [Cond.value, given_1] using gg1
    obtain ⟨L⟩ := args
    match L, hs with
    | [w0, w1], _ => exact ⟨w0, w1, rfl⟩
  have hw := fun d (hd : d ∈ tables_1) => atoms_spec (ws := Jvm.Cond.code x code maxLocals ret :: tables_1) hat d (List.mem_cons_of_mem _ hd)
  have hfit : Fit s := fun {y c} hc i hi => by
    obtain ⟨ha, rfl⟩ := Array.getElem?_eq_some_iff.mp hc
    have q := List.all_eq_true.mp ((Array.all_eq_true_iff_forall_mem.mp hF) _ (Array.getElem_mem ha)) i (List.mem_range.mpr hi)
    simpa [Array.getElem?_eq_getElem hi] using q
  obtain ⟨i0, ei0⟩ := is_v gg3
  obtain rfl : w0 = (.int i0) := Option.some.inj ei0
  obtain ⟨i1, ei1⟩ := is_v gg4
  obtain rfl : w1 = (.int i1) := Option.some.inj ei1
  obtain ⟨u_FilterKind_SEEN, eu_FilterKind_SEEN⟩ := exa_v gg5
  obtain ⟨u_FilterKind_URL_LAYERS, eu_FilterKind_URL_LAYERS⟩ := exa_v gg9
  obtain ⟨u_FilterKind_COUNTING, eu_FilterKind_COUNTING⟩ := exa_v gg13
  obtain ⟨n, o, h1, h2, h3, _, L, rfl, ⟨rfl, N⟩, hq⟩ := rm0 l s _ hw tables_1 i0 i1 u_FilterKind_SEEN u_FilterKind_URL_LAYERS u_FilterKind_COUNTING s.heap s.heap.size (Nat.le_refl _) (Sta.start eu_FilterKind_SEEN (Or.inr ⟨(hw _ (List.mem_of_getElem? (i := 2) rfl)), (hw _ (List.mem_of_getElem? (i := 3) rfl))⟩)) (Exa.start eu_FilterKind_SEEN gg5) (Sta.start eu_FilterKind_URL_LAYERS (Or.inr ⟨(hw _ (List.mem_of_getElem? (i := 2) rfl)), (hw _ (List.mem_of_getElem? (i := 18) rfl))⟩)) (Exa.start eu_FilterKind_URL_LAYERS gg9) (Sta.start eu_FilterKind_COUNTING (Or.inr ⟨(hw _ (List.mem_of_getElem? (i := 2) rfl)), (hw _ (List.mem_of_getElem? (i := 20) rfl))⟩)) (Exa.start eu_FilterKind_COUNTING gg13) (own_fldI eu_FilterKind_SEEN gg7) (own_fldI eu_FilterKind_URL_LAYERS gg11) (own_fldI eu_FilterKind_COUNTING gg14) p e ha hc hk s m _ below hf ((Spec.applies_iff_loose hf).mp happ).1 ⟨rfl, State.Warmed39.refl s, rfl⟩ trivial
  refine ⟨n, _, h1, h2, h3, hpost _ _ _ _ _ _ ⟨Cond.after_iff.mpr rfl, Cond.after_iff.mpr (eq_i res_at (Term.int_eval (1)) rfl), trivial⟩ ⟨hq.1, hq.2.1, (hq.2.2.sift fun y hy => Or.inr (N y hy)).mono (by decide) (by decide)⟩⟩
theorem main_1_1 : Claimed_1_1 := comes_1 fun _ _ _ _ _ _ h hF => ⟨h.1, hF⟩
theorem main_1_2 : Claimed_1_2 := comes_1 fun _ _ _ _ _ _ h hF => ⟨h.2.1, hF⟩
end Jvm.Pilot.@@N@@
namespace Jvm.Pilot.@@N@@
open Jvm Jvm.ClassFile Sem Op Lib Jvm.Free Jvm.Stand Jvm.Pilot.@@N@@.Jvm.D
/-! MADE BY PROGRAM (witnessworld.py) out of the Statement's table words and the real class files: 12 classes; the members and pool entries that the words name. The judged class is class 1, her method 1. -/
namespace start1
open Jvm.ClassFile
def u (s : String) : CpInfo := .utf8 (stringToUtf16 s)
/-- a pool by its gaps: so many unusable entries, then the entry; so many at the end -/
def gap : Nat → List CpInfo → List CpInfo
  | 0, r => r
  | n + 1, r => .unusable :: gap n r
def poolList (es : List (Nat × CpInfo)) (last : Nat) : List CpInfo := es.foldr (fun e r => gap e.1 (e.2 :: r)) (gap last [])
def pool (es : List (Nat × CpInfo)) (last : Nat) : Array CpInfo := ⟨poolList es last⟩
def fileOf (pool : Array CpInfo) (this : Nat) (attrs : Array Attribute := #[]) (ms : Array MethodInfo := #[]) (fl : Nat := 33) (sup : Nat := 0) (ifs : Array Nat := #[]) (fds : Array FieldInfo := #[]) : ClassFile where
  minorVersion := 0
  majorVersion := 65
  constantPool := pool
  accessFlags := fl
  thisClass := this
  superClass := sup
  interfaces := ifs
  fields := fds
  methods := ms
  attributes := attrs
def plain (name : String) (sup : Option ClassId) : Class where
  name := name
  kind := .ordinary
  loader := none
  accessFlags := 33
  super := sup
  interfaces := #[]
  cf := none
  fields := #[]
  methods := #[]
  instanceTypes := #[]
  staticTypes := #[]
  resolved := #[]
  callSites := []
  init := .initialized
  statics := none
  mirror := none

def pool0 : Array CpInfo := pool [(5, u "<init>"), (0, u "()V"), (1, .class_ 10), (1, u "java/lang/Object")] 113

def k0m0 : Method := { name := "<init>", desc := "()V", sig := { parameters := [], returnType := none }, accessFlags := 1, code := none }
/-- java/lang/Object -/
def k0 : Class := { plain "java/lang/Object" none with
  accessFlags := 33
  interfaces := #[]
  cf := some (fileOf pool0 8 #[] #[{ accessFlags := 1, nameIndex := 5, descriptorIndex := 6, attributes := #[] }] 33 0 #[] #[])
  fields := #[]
  methods := #[k0m0]
  instanceTypes := #[]
  staticTypes := #[]
  resolved := Array.replicate 124 none
  statics := none }

def pool1 : Array CpInfo := pool [(2, .class_ 4), (1, u "java/lang/Object"), (0, u "<init>"), (0, u "()V"), (0, .integer 2147483647), (0, .fieldref 9 10), (0, .class_ 11), (0, .nameAndType 12 13), (0, u "com/example/upper_falls/upperfalls/FilterKind"), (0, u "SEEN"), (0, u "Lcom/example/upper_falls/upperfalls/FilterKind;"), (0, .fieldref 9 15), (0, .nameAndType 16 13), (0, u "COUNTING"), (0, .fieldref 9 18), (0, .nameAndType 19 13), (0, u "URL_LAYERS"), (0, .methodref 9 21), (0, .nameAndType 22 23), (0, u "lowestBitOfEachCell"), (0, u "()J"), (0, .methodref 9 25), (0, .nameAndType 26 27), (0, u "cellBits"), (0, u "()I"), (0, .long 281479271743489), (1, .long 18446744073709551615), (1, .class_ 33), (0, u "com/example/upper_falls/upperfalls/FilterKindLowestBitOfEachCellPinLaw"), (2, u "law"), (0, u "(II)Z")] 3

def k1m0 : Method := { name := "<init>", desc := "()V", sig := { parameters := [], returnType := none }, accessFlags := 2, code := none }
def k1c1 : Code := { maxStack := 4, maxLocals := 12, code := code, exceptionTable := #[], attributes := #[] }
def k1m1 : Method := { name := "law", desc := "(II)Z", sig := { parameters := [.int, .int], returnType := some .boolean }, accessFlags := 9, code := some k1c1 }
/-- com/example/upper_falls/upperfalls/FilterKindLowestBitOfEachCellPinLaw -/
def k1 : Class := { plain "com/example/upper_falls/upperfalls/FilterKindLowestBitOfEachCellPinLaw" (some 0) with
  accessFlags := 49
  interfaces := #[]
  cf := some (fileOf pool1 32 #[] #[{ accessFlags := 2, nameIndex := 5, descriptorIndex := 6, attributes := #[] }, { accessFlags := 9, nameIndex := 36, descriptorIndex := 37, attributes := #[] }] 49 2 #[] #[])
  fields := #[]
  methods := #[k1m0, k1m1]
  instanceTypes := #[]
  staticTypes := #[]
  resolved := Array.replicate 41 none
  statics := none }

def pool2 : Array CpInfo := pool [(1, .class_ 2), (0, u "java/lang/constant/Constable"), (0, .class_ 4), (0, u "java/lang/Object")] 6

/-- java/lang/constant/Constable -/
def k2 : Class := { plain "java/lang/constant/Constable" (some 0) with
  accessFlags := 1537
  interfaces := #[]
  cf := some (fileOf pool2 1 #[] #[] 1537 3 #[] #[])
  fields := #[]
  methods := #[]
  instanceTypes := #[]
  staticTypes := #[]
  resolved := Array.replicate 11 none
  statics := none }

def pool3 : Array CpInfo := pool [(1, .class_ 2), (0, u "java/lang/Comparable"), (0, .class_ 4), (0, u "java/lang/Object")] 7

/-- java/lang/Comparable -/
def k3 : Class := { plain "java/lang/Comparable" (some 0) with
  accessFlags := 1537
  interfaces := #[]
  cf := some (fileOf pool3 1 #[] #[] 1537 3 #[] #[])
  fields := #[]
  methods := #[]
  instanceTypes := #[]
  staticTypes := #[]
  resolved := Array.replicate 12 none
  statics := none }

def pool4 : Array CpInfo := pool [(1, .class_ 2), (0, u "java/io/Serializable"), (0, .class_ 4), (0, u "java/lang/Object")] 2

/-- java/io/Serializable -/
def k4 : Class := { plain "java/io/Serializable" (some 0) with
  accessFlags := 1537
  interfaces := #[]
  cf := some (fileOf pool4 1 #[] #[] 1537 3 #[] #[])
  fields := #[]
  methods := #[]
  instanceTypes := #[]
  staticTypes := #[]
  resolved := Array.replicate 7 none
  statics := none }

def pool5 : Array CpInfo := pool [(2, .class_ 4), (1, u "java/lang/Enum"), (0, u "name"), (0, u "Ljava/lang/String;"), (2, u "ordinal"), (0, u "I"), (1, .class_ 14), (1, u "java/lang/Object"), (4, u "hash"), (86, .class_ 108), (1, u "java/lang/Enum$EnumDesc"), (2, .class_ 112), (0, u "java/lang/constant/Constable"), (0, .class_ 114), (0, u "java/lang/Comparable"), (0, .class_ 116), (0, u "java/io/Serializable")] 87

/-- java/lang/Enum -/
def k5 : Class := { plain "java/lang/Enum" (some 0) with
  accessFlags := 1057
  interfaces := #[2, 3, 4]
  cf := some (fileOf pool5 2 #[.nestMembers #[106]] #[] 1057 12 #[111, 113, 115] #[{ accessFlags := 18, nameIndex := 5, descriptorIndex := 6, attributes := #[] }, { accessFlags := 18, nameIndex := 9, descriptorIndex := 10, attributes := #[] }, { accessFlags := 2, nameIndex := 19, descriptorIndex := 10, attributes := #[] }])
  fields := #[{ name := "name", type := (.object "java/lang/String"), accessFlags := 18, slot := 0, constantValue := 0 }, { name := "ordinal", type := .int, accessFlags := 18, slot := 1, constantValue := 0 }, { name := "hash", type := .int, accessFlags := 2, slot := 2, constantValue := 0 }]
  methods := #[]
  instanceTypes := #[(.object "java/lang/String"), .int, .int]
  staticTypes := #[]
  resolved := Array.replicate 204 none
  statics := none }

def pool6 : Array CpInfo := pool [(3, .class_ 4), (0, u "com/example/upper_falls/upperfalls/FilterKind"), (2, u "SEEN"), (0, u "Lcom/example/upper_falls/upperfalls/FilterKind;"), (2, u "COUNTING"), (2, u "URL_LAYERS"), (2, u "$VALUES"), (0, u "[Lcom/example/upper_falls/upperfalls/FilterKind;"), (6, .class_ 27), (1, u "java/lang/Enum"), (8, u "code"), (0, u "I"), (2, u "label"), (0, u "Ljava/lang/String;"), (2, u "cells"), (0, .fieldref 3 46), (0, .nameAndType 47 37), (0, u "cellBits"), (2, u "maxLayers"), (5, u "()J"), (13, u "()I"), (62, u "MAX_WORDS"), (0, u "J"), (14, u "lowestBitOfEachCell")] 20

def k6c0 : Code := { maxStack := 1, maxLocals := 1, code := prog_11_method_9_code, exceptionTable := #[], attributes := #[] }
def k6m0 : Method := { name := "cellBits", desc := "()I", sig := { parameters := [], returnType := some .int }, accessFlags := 0, code := some k6c0 }
def k6c1 : Code := { maxStack := 5, maxLocals := 4, code := prog_11_method_12_code, exceptionTable := #[], attributes := #[] }
def k6m1 : Method := { name := "lowestBitOfEachCell", desc := "()J", sig := { parameters := [], returnType := some .long }, accessFlags := 0, code := some k6c1 }
/-- com/example/upper_falls/upperfalls/FilterKind -/
def k6 : Class := { plain "com/example/upper_falls/upperfalls/FilterKind" (some 5) with
  accessFlags := 16433
  interfaces := #[]
  cf := some (fileOf pool6 3 #[] #[{ accessFlags := 0, nameIndex := 47, descriptorIndex := 70, attributes := #[] }, { accessFlags := 0, nameIndex := 149, descriptorIndex := 56, attributes := #[] }] 16433 25 #[] #[{ accessFlags := 16409, nameIndex := 7, descriptorIndex := 8, attributes := #[] }, { accessFlags := 16409, nameIndex := 11, descriptorIndex := 8, attributes := #[] }, { accessFlags := 16409, nameIndex := 14, descriptorIndex := 8, attributes := #[] }, { accessFlags := 26, nameIndex := 133, descriptorIndex := 134, attributes := #[] }, { accessFlags := 18, nameIndex := 36, descriptorIndex := 37, attributes := #[] }, { accessFlags := 18, nameIndex := 40, descriptorIndex := 41, attributes := #[] }, { accessFlags := 18, nameIndex := 44, descriptorIndex := 41, attributes := #[] }, { accessFlags := 18, nameIndex := 47, descriptorIndex := 37, attributes := #[] }, { accessFlags := 18, nameIndex := 50, descriptorIndex := 37, attributes := #[] }, { accessFlags := 4122, nameIndex := 17, descriptorIndex := 18, attributes := #[] }])
  fields := #[{ name := "SEEN", type := (.object "com/example/upper_falls/upperfalls/FilterKind"), accessFlags := 16409, slot := 0, constantValue := 0 }, { name := "COUNTING", type := (.object "com/example/upper_falls/upperfalls/FilterKind"), accessFlags := 16409, slot := 1, constantValue := 0 }, { name := "URL_LAYERS", type := (.object "com/example/upper_falls/upperfalls/FilterKind"), accessFlags := 16409, slot := 2, constantValue := 0 }, { name := "MAX_WORDS", type := .long, accessFlags := 26, slot := 3, constantValue := 0 }, { name := "code", type := .int, accessFlags := 18, slot := 3, constantValue := 0 }, { name := "label", type := (.object "java/lang/String"), accessFlags := 18, slot := 4, constantValue := 0 }, { name := "cells", type := (.object "java/lang/String"), accessFlags := 18, slot := 5, constantValue := 0 }, { name := "cellBits", type := .int, accessFlags := 18, slot := 6, constantValue := 0 }, { name := "maxLayers", type := .int, accessFlags := 18, slot := 7, constantValue := 0 }, { name := "$VALUES", type := (.array (.object "com/example/upper_falls/upperfalls/FilterKind")), accessFlags := 4122, slot := 4, constantValue := 0 }]
  methods := #[k6m0, k6m1]
  instanceTypes := #[(.object "java/lang/String"), .int, .int, .int, (.object "java/lang/String"), (.object "java/lang/String"), .int, .int]
  staticTypes := #[(.object "com/example/upper_falls/upperfalls/FilterKind"), (.object "com/example/upper_falls/upperfalls/FilterKind"), (.object "com/example/upper_falls/upperfalls/FilterKind"), .long, (.array (.object "com/example/upper_falls/upperfalls/FilterKind"))]
  resolved := Array.replicate 170 none
  statics := some 0 }

def pool7 : Array CpInfo := pool [(1, u "java/lang/Cloneable"), (0, .class_ 1), (0, u "java/lang/Object"), (0, .class_ 3)] 3

/-- java/lang/Cloneable -/
def k7 : Class := { plain "java/lang/Cloneable" (some 0) with
  accessFlags := 1537
  interfaces := #[]
  cf := some (fileOf pool7 2 #[] #[] 1537 4 #[] #[])
  fields := #[]
  methods := #[]
  instanceTypes := #[]
  staticTypes := #[]
  resolved := Array.replicate 8 none
  statics := none }

/-- the primitive byte -/
def k8 : Class := { plain "byte" none with kind := .primitive 'B', accessFlags := 0x411 }
/-- [B -/
def k9 : Class := { plain "[B" (some 0) with kind := .array 8 .byte, interfaces := #[7, 4], accessFlags := 1041 }

/-- the primitive int -/
def k10 : Class := { plain "int" none with kind := .primitive 'I', accessFlags := 0x411 }
/-- [I -/
def k11 : Class := { plain "[I" (some 0) with kind := .array 10 .int, interfaces := #[7, 4], accessFlags := 1041 }

def heap : Heap := #[{ cls := 6, slots := #[.ref 1, .ref 2, .ref 3, .long 0, .null], vm := .statics 6 },
  { cls := 6, slots := #[.null, .int 0, .int 0, .int 0, .null, .null, .int 1, .int 0], vm := .none },
  { cls := 6, slots := #[.null, .int 1, .int 0, .int 0, .null, .null, .int 16, .int 0], vm := .none },
  { cls := 6, slots := #[.null, .int 2, .int 0, .int 0, .null, .null, .int 1, .int 0], vm := .none }]
def classes : Array Class := #[k0, k1, k2, k3, k4, k5, k6, k7, k8, k9, k10, k11]
def interned : List (Array UInt16 × Addr) := []
def slotsUsed : Nat := 29
def theMethod : MethodId := ⟨1, 1⟩
def args0 : Array Value := #[.int 5, .int 5]
def aboutOver (below : List Frame) : State where
  vm := { classes := classes, interned := interned.toArray }
  heap := heap
  slotsUsed := slotsUsed
  threads := #[{ frames := .invoking theMethod args0 :: below }]
def below0 : List Frame := [.native { method := ⟨0, 0⟩, args := #[] }]
def about1 : State := aboutOver below0
def p0 : Program := .bare "" "" ""
def e0 : Env := launch0.env 0 0 0
theorem w_frames : about1.frames = Frame.invoking theMethod args0 :: below0 := rfl
set_option maxRecDepth 65536 in
theorem w_args : argsFit about1.vm theMethod args0 = true := by decide +kernel
set_option maxRecDepth 65536 in
theorem w_heap : heapFits about1 = true := by decide +kernel
set_option maxRecDepth 65536 in
theorem w_runnable : about1.curStatus? = some .runnable := by decide +kernel
set_option maxRecDepth 65536 in
theorem w_alone : about1.alone = true := by decide +kernel
set_option maxRecDepth 65536 in
theorem w_named : about1.methodNamed? x = some theMethod := by decide +kernel
set_option maxRecDepth 65536 in
theorem w_hears : about1.hears theMethod below0 = true := by decide +kernel
set_option maxRecDepth 65536 in
theorem w_ripe : about1.ripe theMethod args0 below0 = true := by decide +kernel
theorem w_running : about1.status = .running := rfl
set_option maxRecDepth 65536 in
theorem w_room : about1.hasRoom e0.platform room_1 = true :=
  launch0.hasRoom_least _ room_1 (by decide +kernel) (by decide +kernel) (by decide +kernel) (by decide +kernel) (by decide +kernel) (by decide +kernel)
theorem allAtoms_all (ts : List Jvm.Cond) (a : Array Jvm.Value) (st : Jvm.State) : (allAtoms ts).before a st = ts.all (fun c => c.before a st) := by
  induction ts with
  | nil => rfl
  | cons c t ih =>
    show (Jvm.Cond.and c (allAtoms t)).before a st = _
    rw [Jvm.Cond.before_and, ih, List.all_cons]
def words1 : List Jvm.Cond := Jvm.Cond.code x code maxLocals ret :: tables_1
/-- a 'code' word, met by the world's own term for the bytes: nothing is compared byte by byte -/
theorem code_word {y : MethodName} {bytes : ByteArray} {mx : Nat} {rt : Option FieldType} {a : Array Value} {s : State} {m : MethodId} {meth : Method} {c : Code} (h1 : s.methodNamed? y = some m) (h2 : s.vm.method? m = some meth) (h3 : meth.code = some c) (h4 : c.code = bytes)
    (h5 : (c.maxLocals == mx && c.exceptionTable.isEmpty && decide (c.maxStack ≤ mostOperands) && decide (meth.sig.returnType = rt) && !meth.locks && decide (parseMethodDescriptor y.desc = some meth.sig)) = true) : (Jvm.Cond.code y bytes mx rt).before a s = true := by
  simp only [Bool.and_eq_true, beq_iff_eq, Bool.not_eq_true', decide_eq_true_eq] at h5
  obtain ⟨⟨⟨⟨⟨g1, g2⟩, g3⟩, g4⟩, g5⟩, g6⟩ := h5
  simp [Cond.before, Cond.holds, Cond.value, h1, h2, h3, h4, g1, g2, g3, g4, g5, g6]
def isCode : Jvm.Cond → Bool
  | .code _ _ _ _ => true
  | _ => false
theorem all_split {L : List Jvm.Cond} {P : Jvm.Cond → Bool} (h1 : L.all (fun c => isCode c || P c) = true) (h2 : ∀ c ∈ L.filter isCode, P c = true) : L.all P = true := by
  refine List.all_eq_true.mpr fun c hc => ?_
  have h := List.all_eq_true.mp h1 c hc
  rcases Bool.eq_false_or_eq_true (isCode c) with hi | hi
  · exact h2 c (List.mem_filter.mpr ⟨hc, hi⟩)
  · simpa [hi] using h
set_option maxRecDepth 65536 in
theorem w_c0 : (Jvm.Cond.code x code maxLocals ret).before args0 about1 = true := code_word (m := ⟨1, 1⟩) (meth := k1m1) (c := k1c1) (by decide +kernel) rfl rfl rfl (by decide +kernel)
set_option maxRecDepth 65536 in
theorem w_c1 : (Jvm.Cond.code ({ cls := "com/example/upper_falls/upperfalls/FilterKind", name := "lowestBitOfEachCell", desc := "()J" } : Jvm.MethodName) prog_11_method_12_code (4 : Nat) (Option.some Jvm.ClassFile.FieldType.long)).before args0 about1 = true := code_word (m := ⟨6, 1⟩) (meth := k6m1) (c := k6c1) (by decide +kernel) rfl rfl rfl (by decide +kernel)
set_option maxRecDepth 65536 in
theorem w_c2 : (Jvm.Cond.code ({ cls := "com/example/upper_falls/upperfalls/FilterKind", name := "cellBits", desc := "()I" } : Jvm.MethodName) prog_11_method_9_code (1 : Nat) (Option.some Jvm.ClassFile.FieldType.int)).before args0 about1 = true := code_word (m := ⟨6, 0⟩) (meth := k6m0) (c := k6c0) (by decide +kernel) rfl rfl rfl (by decide +kernel)
def codes1 : List Jvm.Cond := [Jvm.Cond.code x code maxLocals ret, Jvm.Cond.code ({ cls := "com/example/upper_falls/upperfalls/FilterKind", name := "lowestBitOfEachCell", desc := "()J" } : Jvm.MethodName) prog_11_method_12_code (4 : Nat) (Option.some Jvm.ClassFile.FieldType.long), Jvm.Cond.code ({ cls := "com/example/upper_falls/upperfalls/FilterKind", name := "cellBits", desc := "()I" } : Jvm.MethodName) prog_11_method_9_code (1 : Nat) (Option.some Jvm.ClassFile.FieldType.int)]
set_option maxRecDepth 65536 in
theorem codes_eq : words1.filter isCode = codes1 := rfl
theorem w_codes : ∀ c ∈ words1.filter isCode, c.before args0 about1 = true := by
  rw [codes_eq]
  intro c hc
  simp only [codes1, List.mem_cons, List.not_mem_nil, or_false] at hc
  rcases hc with rfl | rfl | rfl
  · exact w_c0
  · exact w_c1
  · exact w_c2
set_option maxRecDepth 65536 in
theorem w_t1 : words1.all (fun c => isCode c || c.before args0 about1) = true := by decide +kernel
theorem w_tables : (allAtoms (Jvm.Cond.code x code maxLocals ret :: tables_1)).before args0 about1 = true := by
  rw [allAtoms_all]
  show words1.all (fun c => c.before args0 about1) = true
  refine all_split ?_ w_codes
  rw [w_t1]
set_option maxRecDepth 65536 in
theorem w_case : (Jvm.Cond.and given_1 narrow_1).before args0 about1 = true := by decide +kernel
theorem w_applies : (headSpec (Jvm.Cond.code x code maxLocals ret :: tables_1) room_1).applies x e0.platform about1 = true :=
  (Spec.applies_iff w_frames).mpr ⟨w_running, w_runnable, w_alone, w_named, w_hears, w_ripe, w_room, w_tables⟩
theorem atStart : AtStart classFile x code maxLocals ret World_1 tables_1 room_1 Calls_1 rest_1 Pre_1 launch0 p0 e0 about1 theMethod args0 below0 :=
  ⟨lists_1, trivial, launch0.admits_env _ _ _, launch0.least_env, fairChoices_fair.cas, fairChoices_fair.clock, w_frames, w_args, w_heap, w_applies, trivial, trivial, w_case⟩
end start1
theorem witness_1 : WitnessClaimed_1 := ⟨start1.p0, start1.e0, start1.about1, start1.theMethod, start1.args0, start1.below0, start1.atStart⟩
end Jvm.Pilot.@@N@@
