import JvmDerived
import JvmDerived.Pilot.@@N@@Statement
import JvmDerived.Pilot.@@N@@Code
set_option linter.unusedVariables false
set_option linter.unusedSimpArgs false
namespace Jvm.Pilot.@@N@@
open Jvm Jvm.ClassFile Sem Op Lib Jvm.Free Jvm.Stand Jvm.LawKit Jvm.RoadKit Bundle Jvm.Pilot.@@N@@.Jvm.D
section OwnKit
variable {p : Program} {l : Launch} {e : Env} {R : Room} {s : State} {m : MethodId} {args : Array Value} {below : List Frame} {meth : Method} {c : Code} {T : State} {locs : List Loc} {cells slots : Nat}
/-- from the state A the body runs to its end and leaves what Q says -/
def own_Go (p : Program) (e : Env) (below : List Frame) (s : State) (Q : Option Value → Heap → List Loc → Prop) (kc ks : Nat) (A : State) : Prop :=
  ∃ s₂ o, Steps p.tables e below A s₂ ∧ s₂.status = .running ∧ Ended s₂ below o ∧ ∃ v L, o = .returned v ∧ Q v s₂.heap L ∧ FrameEnd s o s₂ L kc ks
theorem own_go {Q : Option Value → Heap → List Loc → Prop} {kc ks : Nat} {A B : State} (h : ∀ t, Steps p.tables e below B t → Steps p.tables e below A t) (k : own_Go p e below s Q kc ks B) : own_Go p e below s Q kc ks A := by
  obtain ⟨s₂, o, h1, h2⟩ := k
  exact ⟨s₂, o, h _ h1, h2⟩
/-- from the state A the body runs to the frame g', the heap as it was -/
def own_Arm (p : Program) (l : Launch) (e : Env) (R : Room) (s : State) (m : MethodId) (args : Array Value) (below : List Frame) (meth : Method) (c : Code) (cells slots n0 : Nat) (h : Heap) (g' : JFrame) (A : State) : Prop :=
  ∃ (T' : State) (locs' : List Loc), Stand p l e R s m args below meth c T' locs' cells slots ∧ Fr n0 locs' ∧ T'.heap = h ∧ ∀ t, Steps p.tables e below (T'.setTop g') t → Steps p.tables e below A t
theorem own_arm {n0 : Nat} {h : Heap} {g' : JFrame} {A B : State} (k1 : ∀ t, Steps p.tables e below B t → Steps p.tables e below A t) (k : own_Arm p l e R s m args below meth c cells slots n0 h g' B) : own_Arm p l e R s m args below meth c cells slots n0 h g' A := by
  obtain ⟨T', locs', h1, h2, h3, h4⟩ := k
  exact ⟨T', locs', h1, h2, h3, fun t kt => k1 t (h4 t kt)⟩
theorem own_armEnd {n0 : Nat} {h : Heap} {g g' : JFrame} (X : Stand p l e R s m args below meth c T locs cells slots) (N : Fr n0 locs) (eT : T.heap = h) (q : g' = g) : own_Arm p l e R s m args below meth c cells slots n0 h g' (T.setTop g) :=
  ⟨T, locs, X, N, eT, fun t kt => q ▸ kt⟩
theorem own_mrg {n0 : Nat} {h : Heap} {g g' : JFrame} (X : Stand p l e R s m args below meth c T locs cells slots) (k : own_Arm p l e R s m args below meth c cells slots n0 h g' (T.setTop g)) :
    ∃ (T' : State) (locs' : List Loc), Stand p l e R s m args below meth c T' locs' cells slots ∧ Fr n0 locs' ∧ T'.heap = h ∧ ∀ t, Steps p.tables e below (T'.setTop g') t → Steps p.tables e below (T.setTop g) t := k
theorem own_leave {Q : Option Value → Heap → List Loc → Prop} {kc ks : Nat} {A : State} {v : Option Value} (X : Stand p l e R s m args below meth c T locs cells slots) (hv : meth.sig.returnType = none → v = none) (hlk : meth.locks = false)
    (hc : cells ≤ kc) (hs : slots ≤ ks) (hQ : Q v T.heap locs) (k : ∀ fs, (∀ (f : JFrame) (acts : List Action), f.method = m → f.locked = none → f.entered = [] → (doReturn e (T.setTop f) acts v).1 = T.setFrames fs) → Steps p.tables e below A (T.setFrames fs)) : own_Go p e below s Q kc ks A := by
  obtain ⟨fs, hr, hrun, hended, hW, hsame⟩ := X.leave (v := v) hv hlk
  exact ⟨_, _, k fs hr, hrun, hended, _, _, rfl, hQ, ⟨_, rfl⟩, hW, hsame.mono hc hs⟩
theorem own_retI {Q : Option Value → Heap → List Loc → Prop} {kc ks pc : Nat} {Ls : Array Slot} {z : Int32} {rest : List Value} (X : Stand p l e R s m args below meth c T locs cells slots) (hx : p.tables.exec = Jvm.exec) (hret : meth.sig.returnType = some .int) (hlk : meth.locks = false)
    (hd : decode c.code pc = .ok (.ireturn, 1)) (hc : cells ≤ kc) (hs : slots ≤ ks) (hQ : Q (some (.int z)) T.heap locs) : own_Go p e below s Q kc ks (T.setTop (mkF m pc Ls (.int z :: rest))) := by
  refine own_leave X (fun h => by rw [hret] at h; cases h) hlk hc hs hQ fun fs hl => ?_
  have hm' : T.vm.method? m = some meth := X.method'
  have hn : narrow .int (.int z) = .int z := rfl
  show Steps p.tables e below (T.setTop { method := m, pc := pc, locals := Ls, stack := _ :: rest, locked := none }) _
  jvm_step X.here [X.here.top, hx, hd, hm', hret, hn]
  first | (intro acts; rw [hl _ acts rfl rfl rfl]) | rw [hl _ _ rfl rfl rfl]
  exact Steps.refl _
theorem own_retN {Q : Option Value → Heap → List Loc → Prop} {kc ks pc : Nat} {Ls : Array Slot} {z : Int32} {rest : List Value} {t : FieldType} (X : Stand p l e R s m args below meth c T locs cells slots) (hx : p.tables.exec = Jvm.exec) (hret : meth.sig.returnType = some t) (ht : t = .boolean ∨ t = .byte ∨ t = .char ∨ t = .short) (hlk : meth.locks = false)
    (hd : decode c.code pc = .ok (.ireturn, 1)) (hc : cells ≤ kc) (hs : slots ≤ ks) (hQ : Q (some (.int (nar t z))) T.heap locs) : own_Go p e below s Q kc ks (T.setTop (mkF m pc Ls (.int z :: rest))) :=
  own_leave X (fun h => by rw [hret] at h; cases h) hlk hc hs hQ fun fs hl => retN X hx (t := t) hret ht hd hl
theorem own_nar01 {z : Int32} (h : z = 0 ∨ z = 1) : nar .boolean z = z := by rcases h with rfl | rfl <;> rfl
theorem own_retZ {Q : Option Value → Heap → List Loc → Prop} {kc ks pc : Nat} {Ls : Array Slot} {z : Int32} {rest : List Value} (X : Stand p l e R s m args below meth c T locs cells slots) (hx : p.tables.exec = Jvm.exec) (hret : meth.sig.returnType = some .boolean) (hlk : meth.locks = false)
    (hd : decode c.code pc = .ok (.ireturn, 1)) (hc : cells ≤ kc) (hs : slots ≤ ks) (hz : z = 0 ∨ z = 1) (hQ : Q (some (.int z)) T.heap locs) : own_Go p e below s Q kc ks (T.setTop (mkF m pc Ls (.int z :: rest))) :=
  own_retN X hx hret (Or.inl rfl) hlk hd hc hs (by rw [own_nar01 hz]; exact hQ)
theorem own_retJ {Q : Option Value → Heap → List Loc → Prop} {kc ks pc : Nat} {Ls : Array Slot} {z : Int64} (X : Stand p l e R s m args below meth c T locs cells slots) (hx : p.tables.exec = Jvm.exec) (hret : meth.sig.returnType = some .long) (hlk : meth.locks = false)
    (hd : decode c.code pc = .ok (.lreturn, 1)) (hc : cells ≤ kc) (hs : slots ≤ ks) (hQ : Q (some (.long z)) T.heap locs) : own_Go p e below s Q kc ks (T.setTop (mkF m pc Ls [.long z])) :=
  own_leave X (fun h => by rw [hret] at h; cases h) hlk hc hs hQ fun fs hl => X.lreturnOut hx hret hd hl
theorem own_retA {Q : Option Value → Heap → List Loc → Prop} {kc ks pc : Nat} {Ls : Array Slot} {w : Value} {t : FieldType} {rest : List Value} (X : Stand p l e R s m args below meth c T locs cells slots) (hx : p.tables.exec = Jvm.exec) (hret : meth.sig.returnType = some t) (ht : t.isReference = true) (hw : w.isRef = true) (hlk : meth.locks = false)
    (hd : decode c.code pc = .ok (.areturn, 1)) (hc : cells ≤ kc) (hs : slots ≤ ks) (hQ : Q (some w) T.heap locs) : own_Go p e below s Q kc ks (T.setTop (mkF m pc Ls (w :: rest))) := by
  refine own_leave X (fun h => by rw [hret] at h; cases h) hlk hc hs hQ fun fs hl => ?_
  have hm' : T.vm.method? m = some meth := X.method'
  show Steps p.tables e below (T.setTop { method := m, pc := pc, locals := Ls, stack := _ :: rest, locked := none }) _
  rcases ref_cases hw with rfl | ⟨a, rfl⟩
  all_goals
    jvm_step X.here [X.here.top, hx, hd, hm', hret, Value.isRef, ht]
    first | (intro acts; rw [hl _ acts rfl rfl rfl]) | rw [hl _ _ rfl rfl rfl]
    exact Steps.refl _
theorem own_retV {Q : Option Value → Heap → List Loc → Prop} {kc ks pc : Nat} {Ls : Array Slot} (X : Stand p l e R s m args below meth c T locs cells slots) (hx : p.tables.exec = Jvm.exec) (hret : meth.sig.returnType = none) (hlk : meth.locks = false)
    (hd : decode c.code pc = .ok (.return_, 1)) (hc : cells ≤ kc) (hs : slots ≤ ks) (hQ : Q none T.heap locs) : own_Go p e below s Q kc ks (T.setTop (mkF m pc Ls [])) :=
  own_leave X (fun _ => rfl) hlk hc hs hQ fun fs hl => X.returnOut hx hret hd hl
theorem own_getFR {Z : State} {a0 : Array Value} {h : Heap} (X : Stand p l e R s m args below meth c T locs cells slots) (hx : p.tables.exec = Jvm.exec) (hZ : Z.Warmed39 s.vm) {own O n d : String} {index : Nat} (hown : s.vm.findClass own = some m.cls) (w : (Jvm.Cond.fieldRef own index O n d).before a0 Z = true)
    (eT : T.heap = h) {a : Addr} {v : Value} (F : Fld Z h a O n d v) {g : JFrame} (hg : g.method = m) {rest : List Value} (hs : g.stack = .ref a :: rest) (hd : decode c.code g.pc = .ok (.getfield index, 3)) (target : State) (k : Steps p.tables e below (T.setTop { g with pc := g.pc + 3, stack := v :: rest }) target) : Steps p.tables e below (T.setTop g) target := by
  obtain ⟨cell, cf, kc, i, f, h1, h2, h3, h4, -, -, h7⟩ := F
  have hW : Z.Warmed39 T.vm := wtrans hZ X.warmed
  have w2 := Cond.fieldRef_warmed39 hW w
  obtain ⟨k', hi, -⟩ := State.fieldFound?_setVm (s := Z) hW.alike h2
  have hc : (Z.setVm T.vm).vm.findClass own = some m.cls := by show T.vm.findClass own = _; rw [X.warmed.alike.findClass]; exact hown
  obtain ⟨c1, k1, i1, f1, e1, hr⟩ := Cond.fieldRef_spec hc w2
  cases hi.symm.trans e1
  exact (X.getfieldR hx hg (cF := cf) (field := f) hr h3 hs (by rw [eT]; exact h1) h4 h7 hd (Steps.refl _)).trans k
theorem own_ite01 {c : Prop} [Decidable c] {a b : Int32} (ha : a = 0 ∨ a = 1) (hb : b = 0 ∨ b = 1) : (if c then a else b) = 0 ∨ (if c then a else b) = 1 := by split <;> assumption
end OwnKit
theorem own_lc_eq {a b : Int64} (h : a = b) : lcmpW a b = 0 := by subst h; simp [lcmpW]
theorem own_lc_neq {a b : Int64} (h : ¬ (a = b)) : ¬ (lcmpW a b = 0) := by unfold lcmpW; split <;> first | decide | (rw [if_neg h]; decide)
theorem own_lc_lt {a b : Int64} (h : a < b) : lcmpW a b < 0 := by
  have h1 : ¬ (a > b) := fun q => Int64.lt_irrefl (Int64.lt_trans h q)
  have h2 : ¬ (a = b) := fun q => by subst q; exact Int64.lt_irrefl h
  rw [lcmpW, if_neg h1, if_neg h2]; decide
theorem own_lc_nlt {a b : Int64} (h : ¬ (a < b)) : ¬ (lcmpW a b < 0) := by
  unfold lcmpW
  split
  · decide
  · rename_i h1
    split
    · decide
    · rename_i h2; exact absurd (Int64.le_antisymm (Int64.not_lt.mp h1) (Int64.not_lt.mp h)) h2
theorem own_lc_gt {a b : Int64} (h : b < a) : (0 : Int32) < lcmpW a b := by rw [lcmpW, if_pos h]; decide
theorem own_lc_ngt {a b : Int64} (h : ¬ (b < a)) : ¬ ((0 : Int32) < lcmpW a b) := by
  rw [lcmpW, if_neg h]; split <;> decide
theorem own_rn {w : Value} {C : String} (h : w.isRef = true) : narrow (.object C) w = w := by rcases ref_cases h with rfl | ⟨a, rfl⟩ <;> rfl
theorem own_rf {w : Value} {C : String} (h : w.isRef = true) : fits (.object C) w = true := by rcases ref_cases h with rfl | ⟨a, rfl⟩ <;> rfl
theorem own_plainE {Z : State} {h : Heap} {a : Addr} {C : String} (E : Exa Z h a C) : ∀ cell : Cell, h[a]? = some cell → cell.vm.isStatics = false := fun cell hc => by
  obtain ⟨c, k, h1, -, -, h4, -⟩ := E
  cases h1.symm.trans hc; exact h4
theorem own_staKeep {Z : State} {h h' : Heap} {C n d : String} {v : Value} {ws : List Addr} (F : Sta Z h C n d v) (K : Keep h h' ws) (q : ∀ x ∈ ws, ∀ cell : Cell, h[x]? = some cell → cell.vm.isStatics = false) : Sta Z h' C n d v := by
  obtain ⟨cf, i, k, f, st, cell, h1, h2, h3, h4, h5, h6, h7⟩ := F
  exact ⟨cf, i, k, f, st, cell, h1, h2, h3, h4, K.2.1 st cell h5 (fun hm => by rw [q st hm cell h5] at h6; cases h6), h6, h7⟩
def own_up {α : Type} (f : Nat → α) (i : Nat) (v : α) : Nat → α := fun k => if k = i then v else f k
def own_AI (Z : State) (h : Heap) (a : Addr) (ty : FieldType) (n : Nat) (f : Nat → Int32) : Prop := ∃ c : Cell, Arr Z h a c ty ∧ c.slots.size = n ∧ n < 2 ^ 31 ∧ ∀ j, j < n → c.slots[j]? = some (.int (f j))
theorem own_AI.lt {Z : State} {h : Heap} {a : Addr} {ty : FieldType} {n : Nat} {f : Nat → Int32} (F : own_AI Z h a ty n f) : a < h.size := by obtain ⟨c, A, -⟩ := F; exact A.lt
theorem own_AI.ext {Z : State} {h h' : Heap} {a : Addr} {ty : FieldType} {n : Nat} {f : Nat → Int32} (F : own_AI Z h a ty n f) (E : Ext h h') : own_AI Z h' a ty n f := by obtain ⟨c, A, r⟩ := F; exact ⟨c, A.ext E, r⟩
theorem own_AI.other {Z : State} {h h' : Heap} {a b : Addr} {ty : FieldType} {n sl : Nat} {w : Value} {f : Nat → Int32} (F : own_AI Z h a ty n f) (W : Wr h h' b sl w) (q : a ≠ b) : own_AI Z h' a ty n f := by obtain ⟨c, A, r⟩ := F; exact ⟨c, A.other W q, r⟩
theorem own_AI.keep {Z : State} {h h' : Heap} {a : Addr} {ty : FieldType} {n : Nat} {ws : List Addr} {f : Nat → Int32} (F : own_AI Z h a ty n f) (K : Keep h h' ws) (q : a ∉ ws) : own_AI Z h' a ty n f := by obtain ⟨c, A, r⟩ := F; exact ⟨c, ⟨K.2.1 a c A.1 q, A.2⟩, r⟩
theorem own_plainAI {Z : State} {h : Heap} {a : Addr} {ty : FieldType} {n : Nat} {f : Nat → Int32} (F : own_AI Z h a ty n f) : ∀ cell : Cell, h[a]? = some cell → cell.vm.isStatics = false := fun cell hc => by
  obtain ⟨c, A, -⟩ := F
  cases A.1.symm.trans hc; exact A.plain
theorem own_AI.wr {Z : State} {h h' : Heap} {a : Addr} {ty : FieldType} {n i : Nat} {x : Int32} {f : Nat → Int32} (F : own_AI Z h a ty n f) (W : Wr h h' a i (.int x)) : own_AI Z h' a ty n (own_up f i x) := by
  obtain ⟨c, A, S, B, H⟩ := F
  refine ⟨_, A.same W, by rw [sz_set]; exact S, B, fun j hj => ?_⟩
  show (c.slots.setIfInBounds i _)[j]? = _
  rw [Array.getElem?_setIfInBounds]
  by_cases q : i = j
  · subst q
    rw [if_pos rfl, if_pos (by rw [S]; exact hj)]; simp [own_up]
  · rw [if_neg q, H j hj, own_up, if_neg (fun e => q e.symm)]
theorem own_AI.new {Z : State} {h : Heap} {a : Addr} {k : ClassId} {ty : FieldType} {z : Int32} {n : Nat} (A : Arr Z h a (newA k ty z) ty) (hd : defaultValue ty = .int 0) (hn : z.toNatClampNeg = n) : own_AI Z h a ty n (fun _ => 0) := by
  refine ⟨_, A, by rw [sz_new]; exact hn, ?_, fun j hj => ?_⟩
  · have := Int32.toInt_lt z; rw [← hn]; unfold Int32.toNatClampNeg; omega
  · have hs : (newA k ty z).slots.size = n := by rw [sz_new]; exact hn
    simp only [newA] at hs ⊢
    rw [Array.getElem?_replicate, if_pos (by rw [hn]; exact hj), hd]
def own_AJ (Z : State) (h : Heap) (a : Addr) (ty : FieldType) (n : Nat) (f : Nat → Int64) : Prop := ∃ c : Cell, Arr Z h a c ty ∧ c.slots.size = n ∧ n < 2 ^ 31 ∧ ∀ j, j < n → c.slots[j]? = some (.long (f j))
theorem own_AJ.lt {Z : State} {h : Heap} {a : Addr} {ty : FieldType} {n : Nat} {f : Nat → Int64} (F : own_AJ Z h a ty n f) : a < h.size := by obtain ⟨c, A, -⟩ := F; exact A.lt
theorem own_AJ.ext {Z : State} {h h' : Heap} {a : Addr} {ty : FieldType} {n : Nat} {f : Nat → Int64} (F : own_AJ Z h a ty n f) (E : Ext h h') : own_AJ Z h' a ty n f := by obtain ⟨c, A, r⟩ := F; exact ⟨c, A.ext E, r⟩
theorem own_AJ.other {Z : State} {h h' : Heap} {a b : Addr} {ty : FieldType} {n sl : Nat} {w : Value} {f : Nat → Int64} (F : own_AJ Z h a ty n f) (W : Wr h h' b sl w) (q : a ≠ b) : own_AJ Z h' a ty n f := by obtain ⟨c, A, r⟩ := F; exact ⟨c, A.other W q, r⟩
theorem own_AJ.keep {Z : State} {h h' : Heap} {a : Addr} {ty : FieldType} {n : Nat} {ws : List Addr} {f : Nat → Int64} (F : own_AJ Z h a ty n f) (K : Keep h h' ws) (q : a ∉ ws) : own_AJ Z h' a ty n f := by obtain ⟨c, A, r⟩ := F; exact ⟨c, ⟨K.2.1 a c A.1 q, A.2⟩, r⟩
theorem own_plainAJ {Z : State} {h : Heap} {a : Addr} {ty : FieldType} {n : Nat} {f : Nat → Int64} (F : own_AJ Z h a ty n f) : ∀ cell : Cell, h[a]? = some cell → cell.vm.isStatics = false := fun cell hc => by
  obtain ⟨c, A, -⟩ := F
  cases A.1.symm.trans hc; exact A.plain
theorem own_AJ.wr {Z : State} {h h' : Heap} {a : Addr} {ty : FieldType} {n i : Nat} {x : Int64} {f : Nat → Int64} (F : own_AJ Z h a ty n f) (W : Wr h h' a i (.long x)) : own_AJ Z h' a ty n (own_up f i x) := by
  obtain ⟨c, A, S, B, H⟩ := F
  refine ⟨_, A.same W, by rw [sz_set]; exact S, B, fun j hj => ?_⟩
  show (c.slots.setIfInBounds i _)[j]? = _
  rw [Array.getElem?_setIfInBounds]
  by_cases q : i = j
  · subst q
    rw [if_pos rfl, if_pos (by rw [S]; exact hj)]; simp [own_up]
  · rw [if_neg q, H j hj, own_up, if_neg (fun e => q e.symm)]
theorem own_AJ.new {Z : State} {h : Heap} {a : Addr} {k : ClassId} {ty : FieldType} {z : Int32} {n : Nat} (A : Arr Z h a (newA k ty z) ty) (hd : defaultValue ty = .long 0) (hn : z.toNatClampNeg = n) : own_AJ Z h a ty n (fun _ => 0) := by
  refine ⟨_, A, by rw [sz_new]; exact hn, ?_, fun j hj => ?_⟩
  · have := Int32.toInt_lt z; rw [← hn]; unfold Int32.toNatClampNeg; omega
  · have hs : (newA k ty z).slots.size = n := by rw [sz_new]; exact hn
    simp only [newA] at hs ⊢
    rw [Array.getElem?_replicate, if_pos (by rw [hn]; exact hj), hd]
section OwnArr
variable {p : Program} {l : Launch} {e : Env} {R : Room} {s : State} {m : MethodId} {args : Array Value} {below : List Frame} {meth : Method} {c : Code} {T : State} {locs : List Loc} {cells slots : Nat} {Z : State} {h : Heap}
theorem own_inb {j : Int32} {n k : Nat} (S : k = n) (hj : ¬ j < 0 ∧ j.toNatClampNeg < n) : ¬ (j < 0 ∨ k ≤ j.toNatClampNeg) := fun q => q.elim hj.1 (fun u => absurd hj.2 (by omega))
theorem own_ldI (X : Stand p l e R s m args below meth c T locs cells slots) (hx : p.tables.exec = Jvm.exec) (hZ : Z.Warmed39 s.vm) (eT : T.heap = h) {a : Addr} {n : Nat} {f : Nat → Int32} (A : own_AI Z h a .int n f) {j : Int32} (hj : ¬ j < 0 ∧ j.toNatClampNeg < n)
    {g : JFrame} (hg : g.method = m) {rest : List Value} (hs : g.stack = .int j :: .ref a :: rest) (hd : decode c.code g.pc = .ok (.iaload, 1)) (target : State) (k : Steps p.tables e below (T.setTop { g with pc := g.pc + 1, stack := .int (f j.toNatClampNeg) :: rest }) target) : Steps p.tables e below (T.setTop g) target := by
  obtain ⟨c', Ar, S, -, H⟩ := A
  exact X.iaload hx (by rw [eT]; exact Ar.1) (State.isArrayOf_alike hZ.alike Ar.2.1) Ar.2.2 (own_inb S hj) (H _ hj.2) hg hs hd target k
theorem own_ldB (X : Stand p l e R s m args below meth c T locs cells slots) (hx : p.tables.exec = Jvm.exec) (hZ : Z.Warmed39 s.vm) (eT : T.heap = h) {a : Addr} {n : Nat} {f : Nat → Int32} (A : own_AI Z h a .byte n f) {j : Int32} (hj : ¬ j < 0 ∧ j.toNatClampNeg < n)
    {g : JFrame} (hg : g.method = m) {rest : List Value} (hs : g.stack = .int j :: .ref a :: rest) (hd : decode c.code g.pc = .ok (.baload, 1)) (target : State) (k : Steps p.tables e below (T.setTop { g with pc := g.pc + 1, stack := .int (f j.toNatClampNeg) :: rest }) target) : Steps p.tables e below (T.setTop g) target := by
  obtain ⟨c', Ar, S, -, H⟩ := A
  exact X.baloadBytes hx (by rw [eT]; exact Ar.1) (State.isArrayOf_alike hZ.alike Ar.2.1) Ar.2.2 (own_inb S hj) (H _ hj.2) hg hs hd target k
theorem own_ldJ (X : Stand p l e R s m args below meth c T locs cells slots) (hx : p.tables.exec = Jvm.exec) (hZ : Z.Warmed39 s.vm) (eT : T.heap = h) {a : Addr} {n : Nat} {f : Nat → Int64} (A : own_AJ Z h a .long n f) {j : Int32} (hj : ¬ j < 0 ∧ j.toNatClampNeg < n)
    {g : JFrame} (hg : g.method = m) {rest : List Value} (hs : g.stack = .int j :: .ref a :: rest) (hd : decode c.code g.pc = .ok (.laload, 1)) (target : State) (k : Steps p.tables e below (T.setTop { g with pc := g.pc + 1, stack := .long (f j.toNatClampNeg) :: rest }) target) : Steps p.tables e below (T.setTop g) target := by
  obtain ⟨c', Ar, S, -, H⟩ := A
  exact X.laload hx (by rw [eT]; exact Ar.1) (State.isArrayOf_alike hZ.alike Ar.2.1) Ar.2.2 (own_inb S hj) (H _ hj.2) hg hs hd target k
theorem own_lenI (X : Stand p l e R s m args below meth c T locs cells slots) (hx : p.tables.exec = Jvm.exec) (hZ : Z.Warmed39 s.vm) (eT : T.heap = h) {a : Addr} {ty : FieldType} {n : Nat} {f : Nat → Int32} (A : own_AI Z h a ty n f)
    {g : JFrame} (hg : g.method = m) {rest : List Value} (hs : g.stack = .ref a :: rest) (hd : decode c.code g.pc = .ok (.arraylength, 1)) (target : State) (k : Steps p.tables e below (T.setTop { g with pc := g.pc + 1, stack := .int (n.toInt32) :: rest }) target) : Steps p.tables e below (T.setTop g) target := by
  obtain ⟨c', Ar, S, -, H⟩ := A
  exact X.arraylength hx (by rw [eT]; exact Ar.1) (State.isArrayOf_alike hZ.alike Ar.2.1) hg hs hd target (by rw [S]; exact k)
theorem own_lenJ (X : Stand p l e R s m args below meth c T locs cells slots) (hx : p.tables.exec = Jvm.exec) (hZ : Z.Warmed39 s.vm) (eT : T.heap = h) {a : Addr} {ty : FieldType} {n : Nat} {f : Nat → Int64} (A : own_AJ Z h a ty n f)
    {g : JFrame} (hg : g.method = m) {rest : List Value} (hs : g.stack = .ref a :: rest) (hd : decode c.code g.pc = .ok (.arraylength, 1)) (target : State) (k : Steps p.tables e below (T.setTop { g with pc := g.pc + 1, stack := .int (n.toInt32) :: rest }) target) : Steps p.tables e below (T.setTop g) target := by
  obtain ⟨c', Ar, S, -, H⟩ := A
  exact X.arraylength hx (by rw [eT]; exact Ar.1) (State.isArrayOf_alike hZ.alike Ar.2.1) hg hs hd target (by rw [S]; exact k)
theorem own_stI (X : Stand p l e R s m args below meth c T locs cells slots) (hx : p.tables.exec = Jvm.exec) (hZ : Z.Warmed39 s.vm) (eT : T.heap = h) {a : Addr} {n : Nat} {f : Nat → Int32} (A : own_AI Z h a .int n f) {j x : Int32} (hj : ¬ j < 0 ∧ j.toNatClampNeg < n)
    {g : JFrame} (hg : g.method = m) {rest : List Value} (hs : g.stack = .int x :: .int j :: .ref a :: rest) (hd : decode c.code g.pc = .ok (.iastore, 1)) :
    ∃ T' h', Stand p l e R s m args below meth c T' (locs ++ [⟨a, j.toNatClampNeg⟩]) cells slots ∧ T'.heap = h' ∧ Wr h h' a j.toNatClampNeg (.int x) ∧ own_AI Z h' a .int n (own_up f j.toNatClampNeg x) ∧ ∀ target, Steps p.tables e below (T'.setTop { g with pc := g.pc + 1, stack := rest }) target → Steps p.tables e below (T.setTop g) target := by
  have A2 := A
  obtain ⟨c', Ar, S, -, H⟩ := A
  obtain ⟨T', h', X', e', W, st⟩ := stI X hx hZ eT Ar (j := j) (x := x) (own_inb S hj) hg hs hd
  exact ⟨T', h', X', e', W, A2.wr W, st⟩
theorem own_stB (X : Stand p l e R s m args below meth c T locs cells slots) (hx : p.tables.exec = Jvm.exec) (hZ : Z.Warmed39 s.vm) (eT : T.heap = h) {a : Addr} {n : Nat} {f : Nat → Int32} (A : own_AI Z h a .byte n f) {j x : Int32} (hj : ¬ j < 0 ∧ j.toNatClampNeg < n)
    {g : JFrame} (hg : g.method = m) {rest : List Value} (hs : g.stack = .int x :: .int j :: .ref a :: rest) (hd : decode c.code g.pc = .ok (.bastore, 1)) :
    ∃ T' h', Stand p l e R s m args below meth c T' (locs ++ [⟨a, j.toNatClampNeg⟩]) cells slots ∧ T'.heap = h' ∧ Wr h h' a j.toNatClampNeg (.int (nar .byte x)) ∧ own_AI Z h' a .byte n (own_up f j.toNatClampNeg (nar .byte x)) ∧ ∀ target, Steps p.tables e below (T'.setTop { g with pc := g.pc + 1, stack := rest }) target → Steps p.tables e below (T.setTop g) target := by
  have A2 := A
  obtain ⟨c', Ar, S, -, H⟩ := A
  obtain ⟨T', h', X', e', W, st⟩ := stB X hx hZ eT Ar (j := j) (x := x) (own_inb S hj) hg hs hd
  exact ⟨T', h', X', e', W, A2.wr W, st⟩
theorem own_stC (X : Stand p l e R s m args below meth c T locs cells slots) (hx : p.tables.exec = Jvm.exec) (hZ : Z.Warmed39 s.vm) (eT : T.heap = h) {a : Addr} {n : Nat} {f : Nat → Int32} (A : own_AI Z h a .char n f) {j x : Int32} (hj : ¬ j < 0 ∧ j.toNatClampNeg < n)
    {g : JFrame} (hg : g.method = m) {rest : List Value} (hs : g.stack = .int x :: .int j :: .ref a :: rest) (hd : decode c.code g.pc = .ok (.castore, 1)) :
    ∃ T' h', Stand p l e R s m args below meth c T' (locs ++ [⟨a, j.toNatClampNeg⟩]) cells slots ∧ T'.heap = h' ∧ Wr h h' a j.toNatClampNeg (.int (nar .char x)) ∧ own_AI Z h' a .char n (own_up f j.toNatClampNeg (nar .char x)) ∧ ∀ target, Steps p.tables e below (T'.setTop { g with pc := g.pc + 1, stack := rest }) target → Steps p.tables e below (T.setTop g) target := by
  have A2 := A
  obtain ⟨c', Ar, S, -, H⟩ := A
  obtain ⟨T', h', X', e', W, st⟩ := stC X hx hZ eT Ar (j := j) (x := x) (own_inb S hj) hg hs hd
  exact ⟨T', h', X', e', W, A2.wr W, st⟩
theorem own_stJ (X : Stand p l e R s m args below meth c T locs cells slots) (hx : p.tables.exec = Jvm.exec) (hZ : Z.Warmed39 s.vm) (eT : T.heap = h) {a : Addr} {n : Nat} {f : Nat → Int64} (A : own_AJ Z h a .long n f) {j : Int32} {x : Int64} (hj : ¬ j < 0 ∧ j.toNatClampNeg < n)
    {g : JFrame} (hg : g.method = m) {rest : List Value} (hs : g.stack = .long x :: .int j :: .ref a :: rest) (hd : decode c.code g.pc = .ok (.lastore, 1)) :
    ∃ T' h', Stand p l e R s m args below meth c T' (locs ++ [⟨a, j.toNatClampNeg⟩]) cells slots ∧ T'.heap = h' ∧ Wr h h' a j.toNatClampNeg (.long x) ∧ own_AJ Z h' a .long n (own_up f j.toNatClampNeg x) ∧ ∀ target, Steps p.tables e below (T'.setTop { g with pc := g.pc + 1, stack := rest }) target → Steps p.tables e below (T.setTop g) target := by
  have A2 := A
  obtain ⟨c', Ar, S, -, H⟩ := A
  obtain ⟨T', h', X', e', W, st⟩ := stJ X hx hZ eT Ar (j := j) (x := x) (own_inb S hj) hg hs hd
  exact ⟨T', h', X', e', W, A2.wr W, st⟩
end OwnArr
theorem own_fldI {s : State} {args : Array Value} {t : Term} {u : Addr} {C n d : String} {k : Int32} (et : t.eval args s none [] s = some (.ref u)) (h : (Jvm.Cond.eq (.field t C n d) (.int k)).value args s none s [] = some true) : Fld s s.heap u C n d (.int k) := by
  obtain ⟨x, y, ha, hb, -, -⟩ := cmp_v (Or.inl h)
  have hy : y = .int k := (Option.some.inj ((Term.int_eval k).symm.trans hb)).symm
  subst hy
  refine Fld.start ?_
  rw [← fld_at (o := none) (idx := []) et, ha]
  simp only [Cond.value, ha, hb] at h
  cases x <;> simp_all
theorem own_fldN {s : State} {args : Array Value} {t : Term} {u : Addr} {C n d : String} (et : t.eval args s none [] s = some (.ref u)) (h : (Jvm.Cond.eq (.field t C n d) .null).value args s none s [] = some true) : Fld s s.heap u C n d .null :=
  Fld.start (by rw [← fld_at (o := none) (idx := []) et]; exact null_v h)
theorem own_fldR {s : State} {args : Array Value} {t t' : Term} {u u' : Addr} {C n d : String} (et : t.eval args s none [] s = some (.ref u)) (et' : t'.eval args s none [] s = some (.ref u')) (h : (Jvm.Cond.eq (.field t C n d) t').value args s none s [] = some true) : Fld s s.heap u C n d (.ref u') := by
  obtain ⟨x, y, ha, hb, -, -⟩ := cmp_v (Or.inl h)
  have hy : y = .ref u' := Option.some.inj (hb.symm.trans et')
  subst hy
  refine Fld.start ?_
  rw [← fld_at (o := none) (idx := []) et, ha]
  simp only [Cond.value, ha, hb] at h
  cases x <;> simp_all
theorem own_neI {s : State} {args : Array Value} {t : Term} {u k : Int32} (et : t.eval args s none [] s = some (.int u)) (h : (Jvm.Cond.not (Jvm.Cond.eq t (.int k))).value args s none s [] = some true) : ¬ (u = k) := fun q => by
  have q2 := not_v h
  have hb : (Term.int k).eval args s none [] s = some (.int k) := Term.int_eval k
  subst q
  simp only [Cond.value, et, hb] at q2
  simp at q2
theorem d2_0 : decode jdk_43_method_3_code 0 = .ok (.iload_n 0, 1) := by decide +kernel
theorem d2_1 : decode jdk_43_method_3_code 1 = .ok (.sipush 255, 3) := by decide +kernel
theorem d2_4 : decode jdk_43_method_3_code 4 = .ok (.if_icmp .gt 7, 3) := by decide +kernel
theorem d2_7 : decode jdk_43_method_3_code 7 = .ok (.iconst 1, 1) := by decide +kernel
theorem d2_8 : decode jdk_43_method_3_code 8 = .ok (.goto 4, 3) := by decide +kernel
theorem d2_11 : decode jdk_43_method_3_code 11 = .ok (.iconst 0, 1) := by decide +kernel
theorem d2_12 : decode jdk_43_method_3_code 12 = .ok (.ireturn, 1) := by decide +kernel
theorem ef_2 (m : MethodId) (p0 : Int32) : entryFrame m #[(.int p0)] 1 = mkF m 0 #[.val (.int p0)] [] := by (first | (simp [entryFrame, mkF, argsToLocals, Value.category]; done) | rfl)
def own_r2 (p0 : Int32) : Int32 := (if (255 : Int32) < p0 then (0 : Int32) else (1 : Int32))
theorem own_r2_b (p0 : Int32) : own_r2 p0 = 0 ∨ own_r2 p0 = 1 := by unfold own_r2; exact (own_ite01 (Or.inl rfl) (Or.inr rfl))
theorem pn0 : plainName "java/lang/StringLatin1" = true := by first | (simp [plainName, overriddenIn]; done) | decide +kernel
def Q2 (Z : State) (p0 : Int32) (h0 : Heap) (n0 : Nat) (v : Option Value) (h : Heap) (L : List Loc) : Prop := v = some (.int (own_r2 p0)) ∧ Fr n0 L ∧ h = h0
set_option maxRecDepth 65536 in
set_option maxHeartbeats 40000000 in
theorem rm2 (l : Launch) (Z : State) (a0 : Array Value) (hw : ∀ d ∈ tables_1, d.before a0 Z = true) (ws : List Jvm.Cond) (p0 : Int32) (h0 : Heap) (n0 : Nat) (Z0 : n0 ≤ h0.size) :
    MetFree l (⟨"java/lang/StringLatin1", "canEncode", "(C)Z"⟩ : MethodName) (head1 (Jvm.Cond.code (⟨"java/lang/StringLatin1", "canEncode", "(C)Z"⟩ : MethodName) jdk_43_method_3_code 1 (some .boolean) :: ws) ({ frames := 0, cells := 0, slots := 0, locals := 0 } : Room)) (fun a U => a = #[(.int p0)] ∧ Z.Warmed39 U.vm ∧ U.heap = h0) (fun _ _ _ _ _ => True) (fun _ U o U' => ∃ v L, o = .returned v ∧ Q2 Z p0 h0 n0 v U'.heap L ∧ FrameEnd U o U' L ({ frames := 0, cells := 0, slots := 0, locals := 0 } : Room).cells ({ frames := 0, cells := 0, slots := 0, locals := 0 } : Room).slots) := by
  refine MetFree.of_bodySF (plainFor_of_name pn0) hisR ?_
  intro p e s m args below meth c s₁ Bd hml0 hP hK
  obtain ⟨rfl, hZ, hh⟩ := hP
  have hx := Bd.exec
  have hby := Bd.bytes
  have hml : c.maxLocals = 1 := hml0
  have hown : s.vm.findClass "java/lang/StringLatin1" = some m.cls := findClass_of_methodNamed Bd.named
  have hnm := (name_of_methodNamed Bd.named Bd.method).1
  have X0 : Stand p l e ({ frames := 0, cells := 0, slots := 0, locals := 0 } : Room) s m #[(.int p0)] below meth c s₁ [] 0 0 := Stand.of_body Bd
  have e0 : s₁.heap = h0 := by rw [← hh, Bd.state]; rfl
  have N0 := Fr.nil n0
  have K0 : Keep h0 h0 [] := Keep.refl h0 _
  show own_Go p e below s (Q2 Z p0 h0 n0) ({ frames := 0, cells := 0, slots := 0, locals := 0 } : Room).cells ({ frames := 0, cells := 0, slots := 0, locals := 0 } : Room).slots (s₁.setTop (entryFrame m #[(.int p0)] 1))
  refine own_go (fun t k => castTop (ef_2 m p0) k) ?_
  obtain ⟨v2, hv2⟩ : ∃ z : Int32, z = (if (255 : Int32) < p0 then (0 : Int32) else (1 : Int32)) := ⟨_, rfl⟩
  obtain ⟨T103, lc103, X103, N103, e103, st103⟩ := own_mrg (n0 := n0) (h := h0) (g := (mkF m 4 #[.val (.int p0)] [(.int (255 : Int32)), (.int p0)])) (g' := (mkF m 12 #[.val (.int p0)] [(.int v2)])) X0 (by
    by_cases hc4_1 : (255 : Int32) < p0
    · have hgo101 : ∀ t, Steps p.tables e below (s₁.setTop (mkF m 12 #[.val (.int p0)] [(.int (0 : Int32))])) t → Steps p.tables e below (s₁.setTop (mkF m 4 #[.val (.int p0)] [(.int (255 : Int32)), (.int p0)])) t := by
        intro t kt
        show Steps p.tables e below (s₁.setTop (mkF m 4 #[.val (.int p0)] [(.int (255 : Int32)), (.int p0)])) _
        refine XS.icmpYes X0.here hx rfl (pc0 := 4) (pc' := 11) rfl (hb hby d2_4) rfl (tlt hc4_1).2.2.1 (by decide) (by decide) ?_
        show Steps p.tables e below (s₁.setTop (mkF m 11 #[.val (.int p0)] [])) _
        refine XS.iconst X0.here hx rfl (hb hby d2_11) ?_
        exact kt
      refine own_arm hgo101 ?_
      exact own_armEnd X0 N0 e0 (by rw [hv2.trans (if_pos hc4_1)])
    · have hgo102 : ∀ t, Steps p.tables e below (s₁.setTop (mkF m 12 #[.val (.int p0)] [(.int (1 : Int32))])) t → Steps p.tables e below (s₁.setTop (mkF m 4 #[.val (.int p0)] [(.int (255 : Int32)), (.int p0)])) t := by
        intro t kt
        show Steps p.tables e below (s₁.setTop (mkF m 4 #[.val (.int p0)] [(.int (255 : Int32)), (.int p0)])) _
        refine XS.icmpNo X0.here hx rfl (hb hby d2_4) rfl (flt hc4_1).2.2.1 ?_
        show Steps p.tables e below (s₁.setTop (mkF m 7 #[.val (.int p0)] [])) _
        refine XS.iconst X0.here hx rfl (hb hby d2_7) ?_
        show Steps p.tables e below (s₁.setTop (mkF m 8 #[.val (.int p0)] [(.int (1 : Int32))])) _
        refine XS.goto X0.here hx rfl (pc0 := 8) (pc' := 12) rfl (hb hby d2_8) (by decide) (by decide) ?_
        exact kt
      refine own_arm hgo102 ?_
      exact own_armEnd X0 N0 e0 (by rw [hv2.trans (if_neg hc4_1)]))
  have hgo104 : ∀ t, Steps p.tables e below (T103.setTop (mkF m 12 #[.val (.int p0)] [(.int v2)])) t → Steps p.tables e below (s₁.setTop (mkF m 0 #[.val (.int p0)] [])) t := by
    intro t kt
    show Steps p.tables e below (s₁.setTop (mkF m 0 #[.val (.int p0)] [])) _
    refine XS.iloadN X0.here hx rfl (hb hby d2_0) rfl ?_
    show Steps p.tables e below (s₁.setTop (mkF m 1 #[.val (.int p0)] [(.int p0)])) _
    refine XS.sipush X0.here hx rfl (hb hby d2_1) ?_
    show Steps p.tables e below (s₁.setTop (mkF m 4 #[.val (.int p0)] [(.int (255 : Int32)), (.int p0)])) _
    refine st103 _ ?_
    exact kt
  refine own_go hgo104 ?_
  exact own_retZ X103 hx Bd.returns Bd.notSynchronized (hb hby d2_12) (by decide) (by decide) (by rw [hv2]; exact (own_ite01 (Or.inl rfl) (Or.inr rfl))) (by rw [e103]; exact ⟨(by subst hv2; rw [own_r2]), N103, rfl⟩)
theorem d3_0 : decode jdk_43_method_46_code 0 = .ok (.iconst 1, 1) := by decide +kernel
theorem d3_1 : decode jdk_43_method_46_code 1 = .ok (.newarray .byte, 2) := by decide +kernel
theorem d3_3 : decode jdk_43_method_46_code 3 = .ok (.dup, 1) := by decide +kernel
theorem d3_4 : decode jdk_43_method_46_code 4 = .ok (.iconst 0, 1) := by decide +kernel
theorem d3_5 : decode jdk_43_method_46_code 5 = .ok (.iload_n 0, 1) := by decide +kernel
theorem d3_6 : decode jdk_43_method_46_code 6 = .ok (.i2b, 1) := by decide +kernel
theorem d3_7 : decode jdk_43_method_46_code 7 = .ok (.bastore, 1) := by decide +kernel
theorem d3_8 : decode jdk_43_method_46_code 8 = .ok (.areturn, 1) := by decide +kernel
theorem ef_3 (m : MethodId) (p0 : Int32) : entryFrame m #[(.int p0)] 1 = mkF m 0 #[.val (.int p0)] [] := by (first | (simp [entryFrame, mkF, argsToLocals, Value.category]; done) | rfl)
def Q3 (Z : State) (p0 : Int32) (h0 : Heap) (n0 : Nat) (v : Option Value) (h : Heap) (L : List Loc) : Prop := ∃ x0 : Addr, v = some (.ref x0) ∧ Fr n0 L ∧ Keep h0 h [] ∧ h0.size ≤ x0 ∧ own_AI Z h x0 .byte 1 (own_up (fun _ => (0 : Int32)) 0 (nar .byte (p0.toInt8.toInt32)))
set_option maxRecDepth 65536 in
set_option maxHeartbeats 40000000 in
theorem rm3 (l : Launch) (Z : State) (a0 : Array Value) (hw : ∀ d ∈ tables_1, d.before a0 Z = true) (ws : List Jvm.Cond) (p0 : Int32) (h0 : Heap) (n0 : Nat) (Z0 : n0 ≤ h0.size) :
    MetFree l (⟨"java/lang/StringLatin1", "toBytes", "(C)[B"⟩ : MethodName) (head1 (Jvm.Cond.code (⟨"java/lang/StringLatin1", "toBytes", "(C)[B"⟩ : MethodName) jdk_43_method_46_code 1 (some (.array .byte)) :: ws) ({ frames := 0, cells := 1, slots := 1, locals := 0 } : Room)) (fun a U => a = #[(.int p0)] ∧ Z.Warmed39 U.vm ∧ U.heap = h0) (fun _ _ _ _ _ => True) (fun _ U o U' => ∃ v L, o = .returned v ∧ Q3 Z p0 h0 n0 v U'.heap L ∧ FrameEnd U o U' L ({ frames := 0, cells := 1, slots := 1, locals := 0 } : Room).cells ({ frames := 0, cells := 1, slots := 1, locals := 0 } : Room).slots) := by
  refine MetFree.of_bodySF (plainFor_of_name pn0) hisR ?_
  intro p e s m args below meth c s₁ Bd hml0 hP hK
  obtain ⟨rfl, hZ, hh⟩ := hP
  have hx := Bd.exec
  have hby := Bd.bytes
  have hml : c.maxLocals = 1 := hml0
  have hown : s.vm.findClass "java/lang/StringLatin1" = some m.cls := findClass_of_methodNamed Bd.named
  have hnm := (name_of_methodNamed Bd.named Bd.method).1
  have X0 : Stand p l e ({ frames := 0, cells := 1, slots := 1, locals := 0 } : Room) s m #[(.int p0)] below meth c s₁ [] 0 0 := Stand.of_body Bd
  have e0 : s₁.heap = h0 := by rw [← hh, Bd.state]; rfl
  have N0 := Fr.nil n0
  have K0 : Keep h0 h0 [] := Keep.refl h0 _
  show own_Go p e below s (Q3 Z p0 h0 n0) ({ frames := 0, cells := 1, slots := 1, locals := 0 } : Room).cells ({ frames := 0, cells := 1, slots := 1, locals := 0 } : Room).slots (s₁.setTop (entryFrame m #[(.int p0)] 1))
  refine own_go (fun t k => castTop (ef_3 m p0) k) ?_
  obtain ⟨T101, h101, k101, X101, e101, E101, A101, st101⟩ := newP X0 hx hZ (hw _ (List.mem_of_getElem? (i := 14) rfl)) e0 (g := (mkF m 1 #[.val (.int p0)] [(.int (1 : Int32))])) rfl (hb hby d3_1) rfl (by decide) (cap := 1) (by decide) (by decide) (by decide) (by decide)
  obtain ⟨b101, g101⟩ : ∃ z, z = h0.size := ⟨_, rfl⟩
  rw [← g101] at A101 st101
  have g_b101 : n0 ≤ b101 := Nat.le_trans Z0 (Nat.le_of_eq g101.symm)
  have sz_b101 : h0.size ≤ b101 := Nat.le_trans K0.1 (Nat.le_of_eq g101.symm)
  have Z102 : n0 ≤ h101.size := Nat.le_trans Z0 E101.1
  have K103 : Keep h0 h101 [] := K0.ext E101
  obtain ⟨v1, hv1⟩ : ∃ z : Nat → Int32, z = (fun _ => (0 : Int32)) := ⟨_, rfl⟩
  have F104 : own_AI Z h101 b101 .byte 1 v1 := by rw [hv1]; exact own_AI.new A101 rfl (by decide)
  obtain ⟨v2, hv2⟩ : ∃ z : Int32, z = (p0.toInt8.toInt32) := ⟨_, rfl⟩
  have hin7_105 : ¬ (0 : Int32) < 0 ∧ (0 : Int32).toNatClampNeg < 1 := by decide
  obtain ⟨T106, h106, X106, e106, W106, B106, st106⟩ := own_stB X101 hx hZ e101 F104 (j := (0 : Int32)) (x := v2) hin7_105 (g := (mkF m 7 #[.val (.int p0)] [(.int v2), (.int (0 : Int32)), (.ref b101), (.ref b101)])) rfl rfl (hb hby d3_7)
  obtain ⟨v3, hv3⟩ : ∃ z : Nat → Int32, z = (own_up v1 0 (nar .byte v2)) := ⟨_, rfl⟩
  have B106n : own_AI Z h106 b101 .byte 1 v3 := by rw [hv3]; exact B106
  have Z107 : n0 ≤ h106.size := Nat.le_trans Z102 (Keep.of_wr W106).1
  have K108 : Keep h0 h106 [] := K103.wr W106 (Or.inr sz_b101)
  have N109 := Fr.snoc X106 N0 g_b101
  have hgo110 : ∀ t, Steps p.tables e below (T106.setTop (mkF m 8 #[.val (.int p0)] [(.ref b101)])) t → Steps p.tables e below (s₁.setTop (mkF m 0 #[.val (.int p0)] [])) t := by
    intro t kt
    show Steps p.tables e below (s₁.setTop (mkF m 0 #[.val (.int p0)] [])) _
    refine XS.iconst X0.here hx rfl (hb hby d3_0) ?_
    show Steps p.tables e below (s₁.setTop (mkF m 1 #[.val (.int p0)] [(.int (1 : Int32))])) _
    refine st101 _ ?_
    show Steps p.tables e below (T101.setTop (mkF m 3 #[.val (.int p0)] [(.ref b101)])) _
    refine XS.dup X101.here hx rfl (hb hby d3_3) rfl rfl ?_
    show Steps p.tables e below (T101.setTop (mkF m 4 #[.val (.int p0)] [(.ref b101), (.ref b101)])) _
    refine XS.iconst X101.here hx rfl (hb hby d3_4) ?_
    show Steps p.tables e below (T101.setTop (mkF m 5 #[.val (.int p0)] [(.int (0 : Int32)), (.ref b101), (.ref b101)])) _
    refine XS.iloadN X101.here hx rfl (hb hby d3_5) rfl ?_
    show Steps p.tables e below (T101.setTop (mkF m 6 #[.val (.int p0)] [(.int p0), (.int (0 : Int32)), (.ref b101), (.ref b101)])) _
    refine XS.i2b X101.here hx rfl (hb hby d3_6) rfl ?_
    show Steps p.tables e below (T101.setTop (mkF m 7 #[.val (.int p0)] [(.int (p0.toInt8.toInt32)), (.int (0 : Int32)), (.ref b101), (.ref b101)])) _
    rw [← hv2]
    refine st106 _ ?_
    exact kt
  refine own_go hgo110 ?_
  exact own_retA X106 hx Bd.returns rfl rfl Bd.notSynchronized (hb hby d3_8) (by decide) (by decide) (by rw [e106]; exact ⟨b101, (by rfl), N109, K108, sz_b101, (by subst hv3 hv2 hv1; exact B106n)⟩)
theorem d4_0 : decode jdk_42_method_151_code 0 = .ok (.aload_n 0, 1) := by decide +kernel
theorem d4_1 : decode jdk_42_method_151_code 1 = .ok (.invokespecial 1, 3) := by decide +kernel
theorem d4_4 : decode jdk_42_method_151_code 4 = .ok (.aload_n 0, 1) := by decide +kernel
theorem d4_5 : decode jdk_42_method_151_code 5 = .ok (.aload_n 1, 1) := by decide +kernel
theorem d4_6 : decode jdk_42_method_151_code 6 = .ok (.putfield 9, 3) := by decide +kernel
theorem d4_9 : decode jdk_42_method_151_code 9 = .ok (.aload_n 0, 1) := by decide +kernel
theorem d4_10 : decode jdk_42_method_151_code 10 = .ok (.iload_n 2, 1) := by decide +kernel
theorem d4_11 : decode jdk_42_method_151_code 11 = .ok (.putfield 15, 3) := by decide +kernel
theorem d4_14 : decode jdk_42_method_151_code 14 = .ok (.return_, 1) := by decide +kernel
theorem ef_4 (m : MethodId) (r0 : Addr) (r1 : Addr) (p2 : Int32) : entryFrame m #[(.ref r0), (.ref r1), (.int p2)] 3 = mkF m 0 #[.val (.ref r0), .val (.ref r1), .val (.int p2)] [] := by (first | (simp [entryFrame, mkF, argsToLocals, Value.category]; done) | rfl)
theorem pn1 : plainName "java/lang/String" = true := by first | (simp [plainName, overriddenIn]; done) | decide +kernel
def Q4 (Z : State) (r0 : Addr) (r1 : Addr) (p2 : Int32) (u_value_r0 : Value) (w4 : Int32) (h0 : Heap) (n0 : Nat) (v : Option Value) (h : Heap) (L : List Loc) : Prop := v = none ∧ Fr n0 L ∧ Keep h0 h [r0] ∧ Exa Z h r0 "java/lang/String" ∧ Fld Z h r0 "java/lang/String" "value" "[B" (.ref r1) ∧ Fld Z h r0 "java/lang/String" "coder" "B" (.int (nar .byte p2))
set_option maxRecDepth 65536 in
set_option maxHeartbeats 40000000 in
theorem rm4 (l : Launch) (Z : State) (a0 : Array Value) (hw : ∀ d ∈ tables_1, d.before a0 Z = true) (ws : List Jvm.Cond) (r0 : Addr) (r1 : Addr) (p2 : Int32) (u_value_r0 : Value) (w4 : Int32) (h0 : Heap) (n0 : Nat) (Z0 : n0 ≤ h0.size) (E_r0 : Exa Z h0 r0 "java/lang/String") (F_value_r0 : Fld Z h0 r0 "java/lang/String" "value" "[B" u_value_r0) (F_coder_r0 : Fld Z h0 r0 "java/lang/String" "coder" "B" (.int w4)) (g_r0 : n0 ≤ r0) :
    MetFree l (⟨"java/lang/String", "<init>", "([BB)V"⟩ : MethodName) (head1 (Jvm.Cond.code (⟨"java/lang/String", "<init>", "([BB)V"⟩ : MethodName) jdk_42_method_151_code 3 none :: ws) ({ frames := 1, cells := 0, slots := 0, locals := 12 } : Room)) (fun a U => a = #[(.ref r0), (.ref r1), (.int p2)] ∧ Z.Warmed39 U.vm ∧ U.heap = h0) (fun _ _ _ _ _ => True) (fun _ U o U' => ∃ v L, o = .returned v ∧ Q4 Z r0 r1 p2 u_value_r0 w4 h0 n0 v U'.heap L ∧ FrameEnd U o U' L ({ frames := 1, cells := 0, slots := 0, locals := 12 } : Room).cells ({ frames := 1, cells := 0, slots := 0, locals := 12 } : Room).slots) := by
  refine MetFree.of_bodySF (plainFor_of_name pn1) hisR ?_
  intro p e s m args below meth c s₁ Bd hml0 hP hK
  obtain ⟨rfl, hZ, hh⟩ := hP
  have hx := Bd.exec
  have hby := Bd.bytes
  have hml : c.maxLocals = 3 := hml0
  have hown : s.vm.findClass "java/lang/String" = some m.cls := findClass_of_methodNamed Bd.named
  have hnm := (name_of_methodNamed Bd.named Bd.method).1
  have X0 : Stand p l e ({ frames := 1, cells := 0, slots := 0, locals := 12 } : Room) s m #[(.ref r0), (.ref r1), (.int p2)] below meth c s₁ [] 0 0 := Stand.of_body Bd
  have e0 : s₁.heap = h0 := by rw [← hh, Bd.state]; rfl
  have N0 := Fr.nil n0
  have K0 : Keep h0 h0 [r0] := Keep.refl h0 _
  show own_Go p e below s (Q4 Z r0 r1 p2 u_value_r0 w4 h0 n0) ({ frames := 1, cells := 0, slots := 0, locals := 12 } : Room).cells ({ frames := 1, cells := 0, slots := 0, locals := 12 } : Room).slots (s₁.setTop (entryFrame m #[(.ref r0), (.ref r1), (.int p2)] 3))
  refine own_go (fun t k => castTop (ef_4 m r0 r1 p2) k) ?_
  obtain ⟨T101, X101, e101, st101⟩ := initO X0 hx hZ hown (hw _ (List.mem_of_getElem? (i := 19) rfl)) (hw _ (List.mem_of_getElem? (i := 20) rfl)) (hw _ (List.mem_of_getElem? (i := 21) rfl)) e0 (g := (mkF m 1 #[.val (.ref r0), .val (.ref r1), .val (.int p2)] [(.ref r0)])) rfl (by rw [hml]; rfl) rfl (hb hby d4_1) (by decide) (W := 0) (by show 2 * 0 + _ ≤ _; exact Nat.le_of_eq rfl) (by decide)
  obtain ⟨T102, h102, X102, e102, W102, st102⟩ := putF X101 hx hZ hown (host := "") (Or.inl (hw _ (List.mem_of_getElem? (i := 22) rfl))) Via.refl e101 F_value_r0 E_r0 (Or.inr ⟨(hw _ (List.mem_of_getElem? (i := 23) rfl)), rfl, hnm⟩) (hw _ (List.mem_of_getElem? (i := 10) rfl)) (ty := (.array .byte)) (by decide) rfl rfl (g := (mkF m 6 #[.val (.ref r0), .val (.ref r1), .val (.int p2)] [(.ref r1), (.ref r0)])) rfl rfl (hb hby d4_6)
  have F103 := E_r0.wr W102
  have F104 := F_value_r0.same W102
  have F105 := F_coder_r0.other W102 (Or.inr (slot_ne (Or.inr (hw _ (List.mem_of_getElem? (i := 25) rfl))) (Or.inr (hw _ (List.mem_of_getElem? (i := 23) rfl))) (by decide) (t := .byte) (t' := (.array .byte)) (by decide) (by decide)))
  have Z106 : n0 ≤ h102.size := Nat.le_trans Z0 (Keep.of_wr W102).1
  have K107 : Keep h0 h102 [r0] := K0.wr W102 (Or.inl (List.mem_of_getElem? (i := 0) rfl))
  have N108 := Fr.snoc X102 N0 g_r0
  obtain ⟨T109, h109, X109, e109, W109, st109⟩ := putFN X102 hx hZ hown (hw _ (List.mem_of_getElem? (i := 24) rfl)) Via.refl e102 F105 F103 (Or.inr ⟨(hw _ (List.mem_of_getElem? (i := 25) rfl)), rfl, hnm⟩) (hw _ (List.mem_of_getElem? (i := 10) rfl)) (ty := .byte) (v' := (.int (nar .byte p2))) (by decide) rfl (fits_nar_byte _) (g := (mkF m 11 #[.val (.ref r0), .val (.ref r1), .val (.int p2)] [(.int p2), (.ref r0)])) rfl rfl (hb hby d4_11)
  have F110 := F103.wr W109
  have F111 := F104.other W109 (Or.inr (slot_ne (Or.inr (hw _ (List.mem_of_getElem? (i := 23) rfl))) (Or.inr (hw _ (List.mem_of_getElem? (i := 25) rfl))) (by decide) (t := (.array .byte)) (t' := .byte) (by decide) (by decide)))
  have F112 := F105.same W109
  have Z113 : n0 ≤ h109.size := Nat.le_trans Z106 (Keep.of_wr W109).1
  have K114 : Keep h0 h109 [r0] := K107.wr W109 (Or.inl (List.mem_of_getElem? (i := 0) rfl))
  have N115 := Fr.snoc X109 N108 g_r0
  have hgo116 : ∀ t, Steps p.tables e below (T109.setTop (mkF m 14 #[.val (.ref r0), .val (.ref r1), .val (.int p2)] [])) t → Steps p.tables e below (s₁.setTop (mkF m 0 #[.val (.ref r0), .val (.ref r1), .val (.int p2)] [])) t := by
    intro t kt
    show Steps p.tables e below (s₁.setTop (mkF m 0 #[.val (.ref r0), .val (.ref r1), .val (.int p2)] [])) _
    refine XS.aloadN X0.here hx rfl (hb hby d4_0) rfl rfl ?_
    show Steps p.tables e below (s₁.setTop (mkF m 1 #[.val (.ref r0), .val (.ref r1), .val (.int p2)] [(.ref r0)])) _
    refine st101 _ ?_
    show Steps p.tables e below (T101.setTop (mkF m 4 #[.val (.ref r0), .val (.ref r1), .val (.int p2)] [])) _
    refine XS.aloadN X101.here hx rfl (hb hby d4_4) rfl rfl ?_
    show Steps p.tables e below (T101.setTop (mkF m 5 #[.val (.ref r0), .val (.ref r1), .val (.int p2)] [(.ref r0)])) _
    refine XS.aloadN X101.here hx rfl (hb hby d4_5) rfl rfl ?_
    show Steps p.tables e below (T101.setTop (mkF m 6 #[.val (.ref r0), .val (.ref r1), .val (.int p2)] [(.ref r1), (.ref r0)])) _
    refine st102 _ ?_
    show Steps p.tables e below (T102.setTop (mkF m 9 #[.val (.ref r0), .val (.ref r1), .val (.int p2)] [])) _
    refine XS.aloadN X102.here hx rfl (hb hby d4_9) rfl rfl ?_
    show Steps p.tables e below (T102.setTop (mkF m 10 #[.val (.ref r0), .val (.ref r1), .val (.int p2)] [(.ref r0)])) _
    refine XS.iloadN X102.here hx rfl (hb hby d4_10) rfl ?_
    show Steps p.tables e below (T102.setTop (mkF m 11 #[.val (.ref r0), .val (.ref r1), .val (.int p2)] [(.int p2), (.ref r0)])) _
    refine st109 _ ?_
    exact kt
  refine own_go hgo116 ?_
  exact own_retV X109 hx Bd.returns Bd.notSynchronized (hb hby d4_14) (by decide) (by decide) (by rw [e109]; exact ⟨(by rfl), N115, K114, F110, (by exact F111), (by exact F112)⟩)
theorem d7_0 : decode jdk_30_method_1_code 0 = .ok (.aload_n 0, 1) := by decide +kernel
theorem d7_1 : decode jdk_30_method_1_code 1 = .ok (.invokespecial 1, 3) := by decide +kernel
theorem d7_4 : decode jdk_30_method_1_code 4 = .ok (.return_, 1) := by decide +kernel
theorem ef_7 (m : MethodId) (r0 : Addr) : entryFrame m #[(.ref r0)] 1 = mkF m 0 #[.val (.ref r0)] [] := by (first | (simp [entryFrame, mkF, argsToLocals, Value.category]; done) | rfl)
theorem pn2 : plainName "java/lang/Record" = true := by first | (simp [plainName, overriddenIn]; done) | decide +kernel
def Q7 (Z : State) (r0 : Addr) (h0 : Heap) (n0 : Nat) (v : Option Value) (h : Heap) (L : List Loc) : Prop := v = none ∧ Fr n0 L ∧ h = h0
set_option maxRecDepth 65536 in
set_option maxHeartbeats 40000000 in
theorem rm7 (l : Launch) (Z : State) (a0 : Array Value) (hw : ∀ d ∈ tables_1, d.before a0 Z = true) (ws : List Jvm.Cond) (r0 : Addr) (h0 : Heap) (n0 : Nat) (Z0 : n0 ≤ h0.size) :
    MetFree l (⟨"java/lang/Record", "<init>", "()V"⟩ : MethodName) (head1 (Jvm.Cond.code (⟨"java/lang/Record", "<init>", "()V"⟩ : MethodName) jdk_30_method_1_code 1 none :: ws) ({ frames := 1, cells := 0, slots := 0, locals := 12 } : Room)) (fun a U => a = #[(.ref r0)] ∧ Z.Warmed39 U.vm ∧ U.heap = h0) (fun _ _ _ _ _ => True) (fun _ U o U' => ∃ v L, o = .returned v ∧ Q7 Z r0 h0 n0 v U'.heap L ∧ FrameEnd U o U' L ({ frames := 1, cells := 0, slots := 0, locals := 12 } : Room).cells ({ frames := 1, cells := 0, slots := 0, locals := 12 } : Room).slots) := by
  refine MetFree.of_bodySF (plainFor_of_name pn2) hisR ?_
  intro p e s m args below meth c s₁ Bd hml0 hP hK
  obtain ⟨rfl, hZ, hh⟩ := hP
  have hx := Bd.exec
  have hby := Bd.bytes
  have hml : c.maxLocals = 1 := hml0
  have hown : s.vm.findClass "java/lang/Record" = some m.cls := findClass_of_methodNamed Bd.named
  have hnm := (name_of_methodNamed Bd.named Bd.method).1
  have X0 : Stand p l e ({ frames := 1, cells := 0, slots := 0, locals := 12 } : Room) s m #[(.ref r0)] below meth c s₁ [] 0 0 := Stand.of_body Bd
  have e0 : s₁.heap = h0 := by rw [← hh, Bd.state]; rfl
  have N0 := Fr.nil n0
  have K0 : Keep h0 h0 [] := Keep.refl h0 _
  show own_Go p e below s (Q7 Z r0 h0 n0) ({ frames := 1, cells := 0, slots := 0, locals := 12 } : Room).cells ({ frames := 1, cells := 0, slots := 0, locals := 12 } : Room).slots (s₁.setTop (entryFrame m #[(.ref r0)] 1))
  refine own_go (fun t k => castTop (ef_7 m r0) k) ?_
  obtain ⟨T101, X101, e101, st101⟩ := initO X0 hx hZ hown (hw _ (List.mem_of_getElem? (i := 37) rfl)) (hw _ (List.mem_of_getElem? (i := 20) rfl)) (hw _ (List.mem_of_getElem? (i := 21) rfl)) e0 (g := (mkF m 1 #[.val (.ref r0)] [(.ref r0)])) rfl (by rw [hml]; rfl) rfl (hb hby d7_1) (by decide) (W := 0) (by show 2 * 0 + _ ≤ _; exact Nat.le_of_eq rfl) (by decide)
  have hgo102 : ∀ t, Steps p.tables e below (T101.setTop (mkF m 4 #[.val (.ref r0)] [])) t → Steps p.tables e below (s₁.setTop (mkF m 0 #[.val (.ref r0)] [])) t := by
    intro t kt
    show Steps p.tables e below (s₁.setTop (mkF m 0 #[.val (.ref r0)] [])) _
    refine XS.aloadN X0.here hx rfl (hb hby d7_0) rfl rfl ?_
    show Steps p.tables e below (s₁.setTop (mkF m 1 #[.val (.ref r0)] [(.ref r0)])) _
    refine st101 _ ?_
    exact kt
  refine own_go hgo102 ?_
  exact own_retV X101 hx Bd.returns Bd.notSynchronized (hb hby d7_4) (by decide) (by decide) (by rw [e101]; exact ⟨(by rfl), N0, rfl⟩)
theorem own_ce {p : Int32} (h : ¬ ((255 : Int32) < p)) : ¬ (own_r2 p = 0) := by rw [own_r2, if_neg h]; decide
theorem pd3 : parseMethodDescriptor "(C)Z" = some ⟨[.char], some .boolean⟩ := by decide +kernel
theorem pd4 : parseMethodDescriptor "(C)[B" = some ⟨[.char], some (.array .byte)⟩ := by decide +kernel
theorem pd5 : parseMethodDescriptor "([BB)V" = some ⟨[(.array .byte), .byte], none⟩ := by decide +kernel
theorem d1_0 : decode jdk_42_method_139_code 0 = .ok (.getstatic 38, 3) := by decide +kernel
theorem d1_3 : decode jdk_42_method_139_code 3 = .ok (.ifCond .eq 23, 3) := by decide +kernel
theorem d1_6 : decode jdk_42_method_139_code 6 = .ok (.iload_n 0, 1) := by decide +kernel
theorem d1_7 : decode jdk_42_method_139_code 7 = .ok (.invokestatic 1015, 3) := by decide +kernel
theorem d1_10 : decode jdk_42_method_139_code 10 = .ok (.ifCond .eq 16, 3) := by decide +kernel
theorem d1_13 : decode jdk_42_method_139_code 13 = .ok (.new 10, 3) := by decide +kernel
theorem d1_16 : decode jdk_42_method_139_code 16 = .ok (.dup, 1) := by decide +kernel
theorem d1_17 : decode jdk_42_method_139_code 17 = .ok (.iload_n 0, 1) := by decide +kernel
theorem d1_18 : decode jdk_42_method_139_code 18 = .ok (.invokestatic 1018, 3) := by decide +kernel
theorem d1_21 : decode jdk_42_method_139_code 21 = .ok (.iconst 0, 1) := by decide +kernel
theorem d1_22 : decode jdk_42_method_139_code 22 = .ok (.invokespecial 209, 3) := by decide +kernel
theorem d1_25 : decode jdk_42_method_139_code 25 = .ok (.areturn, 1) := by decide +kernel
theorem ef_1 (m : MethodId) (p0 : Int32) : entryFrame m #[(.int p0)] 1 = mkF m 0 #[.val (.int p0)] [] := by (first | (simp [entryFrame, mkF, argsToLocals, Value.category]; done) | rfl)
def Q1 (Z : State) (p0 : Int32) (ucs : Int32) (h0 : Heap) (n0 : Nat) (v : Option Value) (h : Heap) (L : List Loc) : Prop := ∃ x0 : Addr, v = some (.ref x0) ∧ Fr n0 L ∧ Keep h0 h [] ∧ h0.size ≤ x0 ∧ Exa Z h x0 "java/lang/String" ∧ Fld Z h x0 "java/lang/String" "coder" "B" (.int (nar .byte (0 : Int32)))
set_option maxRecDepth 65536 in
set_option maxHeartbeats 40000000 in
theorem rm1 (l : Launch) (Z : State) (a0 : Array Value) (hw : ∀ d ∈ tables_1, d.before a0 Z = true) (ws : List Jvm.Cond) (p0 : Int32) (ucs : Int32) (h0 : Heap) (n0 : Nat) (Z0 : n0 ≤ h0.size) (S_cs : Sta Z h0 "java/lang/String" "COMPACT_STRINGS" "Z" (.int ucs)) (hcs : ¬ (ucs = (0 : Int32))) (hce : ¬ ((255 : Int32) < p0)) :
    MetFree l (⟨"java/lang/String", "valueOf", "(C)Ljava/lang/String;"⟩ : MethodName) (head1 (Jvm.Cond.code (⟨"java/lang/String", "valueOf", "(C)Ljava/lang/String;"⟩ : MethodName) jdk_42_method_139_code 1 (some (.object "java/lang/String")) :: ws) ({ frames := 2, cells := 2, slots := 5, locals := 27 } : Room)) (fun a U => a = #[(.int p0)] ∧ Z.Warmed39 U.vm ∧ U.heap = h0) (fun _ _ _ _ _ => True) (fun _ U o U' => ∃ v L, o = .returned v ∧ Q1 Z p0 ucs h0 n0 v U'.heap L ∧ FrameEnd U o U' L ({ frames := 2, cells := 2, slots := 5, locals := 27 } : Room).cells ({ frames := 2, cells := 2, slots := 5, locals := 27 } : Room).slots) := by
  refine MetFree.of_bodySF (plainFor_of_name pn1) hisR ?_
  intro p e s m args below meth c s₁ Bd hml0 hP hK
  obtain ⟨rfl, hZ, hh⟩ := hP
  have hx := Bd.exec
  have hby := Bd.bytes
  have hml : c.maxLocals = 1 := hml0
  have hown : s.vm.findClass "java/lang/String" = some m.cls := findClass_of_methodNamed Bd.named
  have hnm := (name_of_methodNamed Bd.named Bd.method).1
  have X0 : Stand p l e ({ frames := 2, cells := 2, slots := 5, locals := 27 } : Room) s m #[(.int p0)] below meth c s₁ [] 0 0 := Stand.of_body Bd
  have e0 : s₁.heap = h0 := by rw [← hh, Bd.state]; rfl
  have N0 := Fr.nil n0
  have K0 : Keep h0 h0 [] := Keep.refl h0 _
  show own_Go p e below s (Q1 Z p0 ucs h0 n0) ({ frames := 2, cells := 2, slots := 5, locals := 27 } : Room).cells ({ frames := 2, cells := 2, slots := 5, locals := 27 } : Room).slots (s₁.setTop (entryFrame m #[(.int p0)] 1))
  refine own_go (fun t k => castTop (ef_1 m p0) k) ?_
  obtain ⟨T101, X101, e101, st101⟩ := getS2 X0 hx hZ hown (host := "") (Or.inl (hw _ (List.mem_of_getElem? (i := 4) rfl))) Via.refl e0 S_cs (g := (mkF m 0 #[.val (.int p0)] [])) rfl (hb hby d1_0)
  obtain ⟨_, _, ⟨T102, L102, k102, n102⟩, -, X102, ⟨Lc102, hQ102, l102, y102, z102⟩, st102⟩ := Jvm.LawKit.callS X101 hx (y := (⟨"java/lang/StringLatin1", "canEncode", "(C)Z"⟩ : MethodName)) hown (mvT hZ (hw _ (List.mem_of_getElem? (i := 5) rfl))) (mvT hZ (hw _ (List.mem_of_getElem? (i := 6) rfl))) (mvT hZ (hw _ (List.mem_of_getElem? (i := 7) rfl))) (mvT hZ (hw _ (List.mem_of_getElem? (i := 8) rfl))) (by decide) (backOf (W := 0) (rm2 l Z a0 hw [] p0 h0 n0 Z0 ) hZ (hw _ (List.mem_of_getElem? (i := 8) rfl)) (hw _ (List.mem_of_getElem? (i := 7) rfl)) (by decide) (by decide)) (g := (mkF m 7 #[.val (.int p0)] [(.int p0)])) rfl (by rw [hml]; rfl) (argsL := [(.int p0)]) (rest := []) (lenOf pd3 rfl) rfl (by show 2 * 0 + _ ≤ _; exact Nat.le_of_eq rfl) (hb hby d1_7) (fun _ _ => ⟨rfl, e101, (by decide : 0 + 0 ≤ _), (by decide : 0 + 0 ≤ _)⟩)
  dsimp only [Pt.U, Pt.locs, Pt.cells, Pt.slots] at X102 l102 y102 z102 st102 hQ102
  subst l102 y102 z102
  obtain ⟨rfl, N102q, e102⟩ := hQ102
  have N102 := Fr.app N0 N102q
  obtain ⟨T103, h103, X103, e103, E103, A103, D103, -, st103⟩ := newO X102 hx hZ hown (hw _ (List.mem_of_getElem? (i := 9) rfl)) (hw _ (List.mem_of_getElem? (i := 10) rfl)) (hw _ (List.mem_of_getElem? (i := 2) rfl)) e102 (g := (mkF m 13 #[.val (.int p0)] [])) rfl (hb hby d1_13) (by decide) (by decide)
  obtain ⟨b103, g103⟩ : ∃ z, z = h0.size := ⟨_, rfl⟩
  rw [← g103] at A103 D103 st103
  have g_b103 : n0 ≤ b103 := Nat.le_trans Z0 (Nat.le_of_eq g103.symm)
  have sz_b103 : h0.size ≤ b103 := Nat.le_trans K0.1 (Nat.le_of_eq g103.symm)
  have F104 := S_cs.ext E103
  have Z105 : n0 ≤ h103.size := Nat.le_trans Z0 E103.1
  have K106 : Keep h0 h103 [] := K0.ext E103
  have F107 : Fld Z h103 b103 "java/lang/String" "value" "[B" .null := D103 (Or.inr (hw _ (List.mem_of_getElem? (i := 23) rfl))) (ty := (.array .byte)) (by decide)
  have F108 : Fld Z h103 b103 "java/lang/String" "coder" "B" (.int (0 : Int32)) := D103 (Or.inr (hw _ (List.mem_of_getElem? (i := 25) rfl))) (ty := .byte) (by decide)
  obtain ⟨_, _, ⟨T109, L109, k109, n109⟩, -, X109, ⟨Lc109, hQ109, l109, y109, z109⟩, st109⟩ := Jvm.LawKit.callS X103 hx (y := (⟨"java/lang/StringLatin1", "toBytes", "(C)[B"⟩ : MethodName)) hown (mvT hZ (hw _ (List.mem_of_getElem? (i := 11) rfl))) (mvT hZ (hw _ (List.mem_of_getElem? (i := 12) rfl))) (mvT hZ (hw _ (List.mem_of_getElem? (i := 7) rfl))) (mvT hZ (hw _ (List.mem_of_getElem? (i := 13) rfl))) (by decide) (backOf (W := 2) (rm3 l Z a0 hw [] p0 h103 n0 Z105 ) hZ (hw _ (List.mem_of_getElem? (i := 13) rfl)) (hw _ (List.mem_of_getElem? (i := 7) rfl)) (by decide) (by decide)) (g := (mkF m 18 #[.val (.int p0)] [(.int p0), (.ref b103), (.ref b103)])) rfl (by rw [hml]; rfl) (argsL := [(.int p0)]) (rest := [(.ref b103), (.ref b103)]) (lenOf pd4 rfl) rfl (by show 2 * 0 + _ ≤ _; exact Nat.le_of_eq rfl) (hb hby d1_18) (fun _ _ => ⟨rfl, e103, (by decide : 1 + 1 ≤ _), (by decide : 4 + 1 ≤ _)⟩)
  dsimp only [Pt.U, Pt.locs, Pt.cells, Pt.slots] at X109 l109 y109 z109 st109 hQ109
  subst l109 y109 z109
  obtain ⟨b109_0, rfl, N109q, K109q, F109_0, F109_1⟩ := hQ109
  have F110 := own_staKeep F104 K109q all0
  have F111 := A103.keep K109q
  have F112 := F107.keep K109q nin0
  have F113 := F108.keep K109q nin0
  have Z114 : n0 ≤ T109.heap.size := Nat.le_trans Z105 K109q.1
  have K115 : Keep h0 T109.heap [] := K106.trans K109q all0
  have g_b109_0 : n0 ≤ b109_0 := Nat.le_trans Z105 F109_0
  have sz_b109_0 : h0.size ≤ b109_0 := Nat.le_trans K106.1 F109_0
  have ne_b103_b109_0 : b103 ≠ b109_0 := Nat.ne_of_lt (Nat.lt_of_lt_of_le A103.lt F109_0)
  obtain ⟨v1, hv1⟩ : ∃ z : Nat → Int32, z = (own_up (fun _ => (0 : Int32)) 0 (nar .byte (p0.toInt8.toInt32))) := ⟨_, rfl⟩
  have F109_1n : own_AI Z T109.heap b109_0 .byte 1 v1 := by rw [hv1]; exact F109_1
  have N109 := Fr.app N102 N109q
  obtain ⟨_, _, ⟨T116, L116, k116, n116⟩, -, X116, ⟨Lc116, hQ116, l116, y116, z116⟩, st116⟩ := X109.specialBack hx (y := (⟨"java/lang/String", "<init>", "([BB)V"⟩ : MethodName)) rfl hown (mvT hZ (hw _ (List.mem_of_getElem? (i := 15) rfl))) (mvT hZ (hw _ (List.mem_of_getElem? (i := 16) rfl))) (mvT hZ (hw _ (List.mem_of_getElem? (i := 18) rfl))) (by decide) (backOf (W := 1) (rm4 l Z a0 hw [] b103 b109_0 (0 : Int32) .null (0 : Int32) (T109.heap) n0 Z114 F111 F112 F113 g_b103) hZ (hw _ (List.mem_of_getElem? (i := 18) rfl)) (hw _ (List.mem_of_getElem? (i := 2) rfl)) (by decide) (by decide)) (g := (mkF m 22 #[.val (.int p0)] [(.int (0 : Int32)), (.ref b109_0), (.ref b103), (.ref b103)])) rfl (by rw [hml]; rfl) (Steps.refl _) (a := b103) (argsL := [(.ref b109_0), (.int (0 : Int32))]) (rest := [(.ref b103)]) (lenOf pd5 rfl) rfl (by show 2 * 0 + _ ≤ _; exact Nat.le_of_eq rfl) (hb hby d1_22) (fun _ _ => ⟨rfl, (rfl : T109.heap = T109.heap), (by decide : 2 + 0 ≤ _), (by decide : 5 + 0 ≤ _)⟩)
  dsimp only [Pt.U, Pt.locs, Pt.cells, Pt.slots] at X116 l116 y116 z116 st116 hQ116
  subst l116 y116 z116
  obtain ⟨rfl, N116q, K116q, F116_0, F116_1, F116_2⟩ := hQ116
  have F117 := own_staKeep F110 K116q (allS (own_plainE F111) all0)
  have F118 := F111.keep K116q
  have F119 := F109_1n.keep K116q (ninS (Ne.symm ne_b103_b109_0) nin0)
  have Z120 : n0 ≤ T116.heap.size := Nat.le_trans Z114 K116q.1
  have K121 : Keep h0 T116.heap [] := K115.trans K116q (allS (Or.inr sz_b103) all0)
  have N116 := Fr.app N109 N116q
  have hgo122 : ∀ t, Steps p.tables e below (T116.setTop (mkF m 25 #[.val (.int p0)] [(.ref b103)])) t → Steps p.tables e below (s₁.setTop (mkF m 0 #[.val (.int p0)] [])) t := by
    intro t kt
    show Steps p.tables e below (s₁.setTop (mkF m 0 #[.val (.int p0)] [])) _
    refine st101 _ ?_
    show Steps p.tables e below (T101.setTop (mkF m 3 #[.val (.int p0)] [(.int ucs)])) _
    refine XS.ifNo X101.here hx rfl (hb hby d1_3) rfl ((if0 _ _).trans (feq hcs).1) ?_
    show Steps p.tables e below (T101.setTop (mkF m 6 #[.val (.int p0)] [])) _
    refine XS.iloadN X101.here hx rfl (hb hby d1_6) rfl ?_
    show Steps p.tables e below (T101.setTop (mkF m 7 #[.val (.int p0)] [(.int p0)])) _
    refine st102 _ ?_
    show Steps p.tables e below (T102.setTop (mkF m 10 #[.val (.int p0)] [(.int (own_r2 p0))])) _
    refine XS.ifNo X102.here hx rfl (hb hby d1_10) rfl ((if0 _ _).trans (feq (own_ce hce)).1) ?_
    show Steps p.tables e below (T102.setTop (mkF m 13 #[.val (.int p0)] [])) _
    refine st103 _ ?_
    show Steps p.tables e below (T103.setTop (mkF m 16 #[.val (.int p0)] [(.ref b103)])) _
    refine XS.dup X103.here hx rfl (hb hby d1_16) rfl rfl ?_
    show Steps p.tables e below (T103.setTop (mkF m 17 #[.val (.int p0)] [(.ref b103), (.ref b103)])) _
    refine XS.iloadN X103.here hx rfl (hb hby d1_17) rfl ?_
    show Steps p.tables e below (T103.setTop (mkF m 18 #[.val (.int p0)] [(.int p0), (.ref b103), (.ref b103)])) _
    refine st109 _ ?_
    show Steps p.tables e below (T109.setTop (mkF m 21 #[.val (.int p0)] [(.ref b109_0), (.ref b103), (.ref b103)])) _
    refine XS.iconst X109.here hx rfl (hb hby d1_21) ?_
    show Steps p.tables e below (T109.setTop (mkF m 22 #[.val (.int p0)] [(.int (0 : Int32)), (.ref b109_0), (.ref b103), (.ref b103)])) _
    refine st116.trans ?_
    exact kt
  refine own_go hgo122 ?_
  exact own_retA X116 hx Bd.returns rfl rfl Bd.notSynchronized (hb hby d1_25) (by decide) (by decide) ⟨b103, (by rfl), N116, K121, sz_b103, F116_0, (by subst hv1; exact F116_2)⟩
theorem pd6 : parseMethodDescriptor "()V" = some ⟨[], none⟩ := by decide +kernel
theorem d6_0 : decode prog_75_method_1_code 0 = .ok (.aload_n 0, 1) := by decide +kernel
theorem d6_1 : decode prog_75_method_1_code 1 = .ok (.invokespecial 3, 3) := by decide +kernel
theorem d6_4 : decode prog_75_method_1_code 4 = .ok (.aload_n 0, 1) := by decide +kernel
theorem d6_5 : decode prog_75_method_1_code 5 = .ok (.aload_n 1, 1) := by decide +kernel
theorem d6_6 : decode prog_75_method_1_code 6 = .ok (.putfield 9, 3) := by decide +kernel
theorem d6_9 : decode prog_75_method_1_code 9 = .ok (.aload_n 0, 1) := by decide +kernel
theorem d6_10 : decode prog_75_method_1_code 10 = .ok (.iload_n 2, 1) := by decide +kernel
theorem d6_11 : decode prog_75_method_1_code 11 = .ok (.putfield 15, 3) := by decide +kernel
theorem d6_14 : decode prog_75_method_1_code 14 = .ok (.aload_n 0, 1) := by decide +kernel
theorem d6_15 : decode prog_75_method_1_code 15 = .ok (.iload_n 3, 1) := by decide +kernel
theorem d6_16 : decode prog_75_method_1_code 16 = .ok (.putfield 19, 3) := by decide +kernel
theorem d6_19 : decode prog_75_method_1_code 19 = .ok (.aload_n 0, 1) := by decide +kernel
theorem d6_20 : decode prog_75_method_1_code 20 = .ok (.iload 4, 2) := by decide +kernel
theorem d6_22 : decode prog_75_method_1_code 22 = .ok (.putfield 22, 3) := by decide +kernel
theorem d6_25 : decode prog_75_method_1_code 25 = .ok (.return_, 1) := by decide +kernel
theorem ef_6n (m : MethodId) (r0 : Addr) (p2 : Int32) (p3 : Int32) (p4 : Int32) : entryFrame m #[(.ref r0), .null, (.int p2), (.int p3), (.int p4)] 5 = mkF m 0 #[.val (.ref r0), .val .null, .val (.int p2), .val (.int p3), .val (.int p4)] [] := by (first | (simp [entryFrame, mkF, argsToLocals, Value.category]; done) | rfl)
theorem pn7 : plainName "inducere/OrderConstraints$Constraint" = true := by first | (simp [plainName, overriddenIn]; done) | decide +kernel
def Q6n (Z : State) (r0 : Addr) (p2 : Int32) (p3 : Int32) (p4 : Int32) (u_relation_r0 : Value) (w5 : Int32) (w6 : Int32) (w7 : Int32) (h0 : Heap) (n0 : Nat) (v : Option Value) (h : Heap) (L : List Loc) : Prop := v = none ∧ Fr n0 L ∧ Keep h0 h [r0] ∧ Exa Z h r0 "inducere/OrderConstraints$Constraint" ∧ Fld Z h r0 "inducere/OrderConstraints$Constraint" "relation" "Ljava/lang/String;" .null ∧ Fld Z h r0 "inducere/OrderConstraints$Constraint" "min" "I" (.int p2) ∧ Fld Z h r0 "inducere/OrderConstraints$Constraint" "max" "I" (.int p3) ∧ Fld Z h r0 "inducere/OrderConstraints$Constraint" "bounded" "Z" (.int (nar .boolean p4))
set_option maxRecDepth 65536 in
set_option maxHeartbeats 40000000 in
theorem rm6n (l : Launch) (Z : State) (a0 : Array Value) (hw : ∀ d ∈ tables_1, d.before a0 Z = true) (ws : List Jvm.Cond) (r0 : Addr) (p2 : Int32) (p3 : Int32) (p4 : Int32) (u_relation_r0 : Value) (w5 : Int32) (w6 : Int32) (w7 : Int32) (h0 : Heap) (n0 : Nat) (Z0 : n0 ≤ h0.size) (E_r0 : Exa Z h0 r0 "inducere/OrderConstraints$Constraint") (F_relation_r0 : Fld Z h0 r0 "inducere/OrderConstraints$Constraint" "relation" "Ljava/lang/String;" u_relation_r0) (F_min_r0 : Fld Z h0 r0 "inducere/OrderConstraints$Constraint" "min" "I" (.int w5)) (F_max_r0 : Fld Z h0 r0 "inducere/OrderConstraints$Constraint" "max" "I" (.int w6)) (F_bounded_r0 : Fld Z h0 r0 "inducere/OrderConstraints$Constraint" "bounded" "Z" (.int w7)) (g_r0 : n0 ≤ r0) :
    MetFree l (⟨"inducere/OrderConstraints$Constraint", "<init>", "(Ljava/lang/String;IIZ)V"⟩ : MethodName) (head1 (Jvm.Cond.code (⟨"inducere/OrderConstraints$Constraint", "<init>", "(Ljava/lang/String;IIZ)V"⟩ : MethodName) prog_75_method_1_code 5 none :: ws) ({ frames := 2, cells := 0, slots := 0, locals := 24 } : Room)) (fun a U => a = #[(.ref r0), .null, (.int p2), (.int p3), (.int p4)] ∧ Z.Warmed39 U.vm ∧ U.heap = h0) (fun _ _ _ _ _ => True) (fun _ U o U' => ∃ v L, o = .returned v ∧ Q6n Z r0 p2 p3 p4 u_relation_r0 w5 w6 w7 h0 n0 v U'.heap L ∧ FrameEnd U o U' L ({ frames := 2, cells := 0, slots := 0, locals := 24 } : Room).cells ({ frames := 2, cells := 0, slots := 0, locals := 24 } : Room).slots) := by
  refine MetFree.of_bodySF (plainFor_of_name pn7) hisR ?_
  intro p e s m args below meth c s₁ Bd hml0 hP hK
  obtain ⟨rfl, hZ, hh⟩ := hP
  have hx := Bd.exec
  have hby := Bd.bytes
  have hml : c.maxLocals = 5 := hml0
  have hown : s.vm.findClass "inducere/OrderConstraints$Constraint" = some m.cls := findClass_of_methodNamed Bd.named
  have hnm := (name_of_methodNamed Bd.named Bd.method).1
  have X0 : Stand p l e ({ frames := 2, cells := 0, slots := 0, locals := 24 } : Room) s m #[(.ref r0), .null, (.int p2), (.int p3), (.int p4)] below meth c s₁ [] 0 0 := Stand.of_body Bd
  have e0 : s₁.heap = h0 := by rw [← hh, Bd.state]; rfl
  have N0 := Fr.nil n0
  have K0 : Keep h0 h0 [r0] := Keep.refl h0 _
  show own_Go p e below s (Q6n Z r0 p2 p3 p4 u_relation_r0 w5 w6 w7 h0 n0) ({ frames := 2, cells := 0, slots := 0, locals := 24 } : Room).cells ({ frames := 2, cells := 0, slots := 0, locals := 24 } : Room).slots (s₁.setTop (entryFrame m #[(.ref r0), .null, (.int p2), (.int p3), (.int p4)] 5))
  refine own_go (fun t k => castTop (ef_6n m r0 p2 p3 p4) k) ?_
  obtain ⟨_, _, ⟨T101, L101, k101, n101⟩, -, X101, ⟨Lc101, hQ101, l101, y101, z101⟩, st101⟩ := X0.specialBack hx (y := (⟨"java/lang/Record", "<init>", "()V"⟩ : MethodName)) rfl hown (mvT hZ (hw _ (List.mem_of_getElem? (i := 32) rfl))) (mvT hZ (hw _ (List.mem_of_getElem? (i := 33) rfl))) (mvT hZ (hw _ (List.mem_of_getElem? (i := 36) rfl))) (by decide) (backOf (W := 0) (rm7 l Z a0 hw [] r0 h0 n0 Z0 ) hZ (hw _ (List.mem_of_getElem? (i := 36) rfl)) (hw _ (List.mem_of_getElem? (i := 35) rfl)) (by decide) (by decide)) (g := (mkF m 1 #[.val (.ref r0), .val .null, .val (.int p2), .val (.int p3), .val (.int p4)] [(.ref r0)])) rfl (by rw [hml]; rfl) (Steps.refl _) (a := r0) (argsL := []) (rest := []) (lenOf pd6 rfl) rfl (by show 2 * 0 + _ ≤ _; exact Nat.le_of_eq rfl) (hb hby d6_1) (fun _ _ => ⟨rfl, e0, (by decide : 0 + 0 ≤ _), (by decide : 0 + 0 ≤ _)⟩)
  dsimp only [Pt.U, Pt.locs, Pt.cells, Pt.slots] at X101 l101 y101 z101 st101 hQ101
  subst l101 y101 z101
  obtain ⟨rfl, N101q, e101⟩ := hQ101
  have N101 := Fr.app N0 N101q
  obtain ⟨T102, h102, X102, e102, W102, st102⟩ := putF X101 hx hZ hown (host := "") (Or.inl (hw _ (List.mem_of_getElem? (i := 38) rfl))) Via.refl e101 F_relation_r0 E_r0 (Or.inr ⟨(hw _ (List.mem_of_getElem? (i := 39) rfl)), rfl, hnm⟩) (hw _ (List.mem_of_getElem? (i := 27) rfl)) (ty := (.object "java/lang/String")) (by decide) rfl rfl (g := (mkF m 6 #[.val (.ref r0), .val .null, .val (.int p2), .val (.int p3), .val (.int p4)] [.null, (.ref r0)])) rfl rfl (hb hby d6_6)
  have F103 := E_r0.wr W102
  have F104 := F_relation_r0.same W102
  have F105 := F_min_r0.other W102 (Or.inr (slot_ne (Or.inr (hw _ (List.mem_of_getElem? (i := 41) rfl))) (Or.inr (hw _ (List.mem_of_getElem? (i := 39) rfl))) (by decide) (t := .int) (t' := (.object "java/lang/String")) (by decide) (by decide)))
  have F106 := F_max_r0.other W102 (Or.inr (slot_ne (Or.inr (hw _ (List.mem_of_getElem? (i := 43) rfl))) (Or.inr (hw _ (List.mem_of_getElem? (i := 39) rfl))) (by decide) (t := .int) (t' := (.object "java/lang/String")) (by decide) (by decide)))
  have F107 := F_bounded_r0.other W102 (Or.inr (slot_ne (Or.inr (hw _ (List.mem_of_getElem? (i := 45) rfl))) (Or.inr (hw _ (List.mem_of_getElem? (i := 39) rfl))) (by decide) (t := .boolean) (t' := (.object "java/lang/String")) (by decide) (by decide)))
  have Z108 : n0 ≤ h102.size := Nat.le_trans Z0 (Keep.of_wr W102).1
  have K109 : Keep h0 h102 [r0] := K0.wr W102 (Or.inl (List.mem_of_getElem? (i := 0) rfl))
  have N110 := Fr.snoc X102 N101 g_r0
  obtain ⟨T111, h111, X111, e111, W111, st111⟩ := putF X102 hx hZ hown (host := "") (Or.inl (hw _ (List.mem_of_getElem? (i := 40) rfl))) Via.refl e102 F105 F103 (Or.inr ⟨(hw _ (List.mem_of_getElem? (i := 41) rfl)), rfl, hnm⟩) (hw _ (List.mem_of_getElem? (i := 27) rfl)) (ty := .int) (by decide) rfl rfl (g := (mkF m 11 #[.val (.ref r0), .val .null, .val (.int p2), .val (.int p3), .val (.int p4)] [(.int p2), (.ref r0)])) rfl rfl (hb hby d6_11)
  have F112 := F103.wr W111
  have F113 := F104.other W111 (Or.inr (slot_ne (Or.inr (hw _ (List.mem_of_getElem? (i := 39) rfl))) (Or.inr (hw _ (List.mem_of_getElem? (i := 41) rfl))) (by decide) (t := (.object "java/lang/String")) (t' := .int) (by decide) (by decide)))
  have F114 := F105.same W111
  have F115 := F106.other W111 (Or.inr (slot_ne (Or.inr (hw _ (List.mem_of_getElem? (i := 43) rfl))) (Or.inr (hw _ (List.mem_of_getElem? (i := 41) rfl))) (by decide) (t := .int) (t' := .int) (by decide) (by decide)))
  have F116 := F107.other W111 (Or.inr (slot_ne (Or.inr (hw _ (List.mem_of_getElem? (i := 45) rfl))) (Or.inr (hw _ (List.mem_of_getElem? (i := 41) rfl))) (by decide) (t := .boolean) (t' := .int) (by decide) (by decide)))
  have Z117 : n0 ≤ h111.size := Nat.le_trans Z108 (Keep.of_wr W111).1
  have K118 : Keep h0 h111 [r0] := K109.wr W111 (Or.inl (List.mem_of_getElem? (i := 0) rfl))
  have N119 := Fr.snoc X111 N110 g_r0
  obtain ⟨T120, h120, X120, e120, W120, st120⟩ := putF X111 hx hZ hown (host := "") (Or.inl (hw _ (List.mem_of_getElem? (i := 42) rfl))) Via.refl e111 F115 F112 (Or.inr ⟨(hw _ (List.mem_of_getElem? (i := 43) rfl)), rfl, hnm⟩) (hw _ (List.mem_of_getElem? (i := 27) rfl)) (ty := .int) (by decide) rfl rfl (g := (mkF m 16 #[.val (.ref r0), .val .null, .val (.int p2), .val (.int p3), .val (.int p4)] [(.int p3), (.ref r0)])) rfl rfl (hb hby d6_16)
  have F121 := F112.wr W120
  have F122 := F113.other W120 (Or.inr (slot_ne (Or.inr (hw _ (List.mem_of_getElem? (i := 39) rfl))) (Or.inr (hw _ (List.mem_of_getElem? (i := 43) rfl))) (by decide) (t := (.object "java/lang/String")) (t' := .int) (by decide) (by decide)))
  have F123 := F114.other W120 (Or.inr (slot_ne (Or.inr (hw _ (List.mem_of_getElem? (i := 41) rfl))) (Or.inr (hw _ (List.mem_of_getElem? (i := 43) rfl))) (by decide) (t := .int) (t' := .int) (by decide) (by decide)))
  have F124 := F115.same W120
  have F125 := F116.other W120 (Or.inr (slot_ne (Or.inr (hw _ (List.mem_of_getElem? (i := 45) rfl))) (Or.inr (hw _ (List.mem_of_getElem? (i := 43) rfl))) (by decide) (t := .boolean) (t' := .int) (by decide) (by decide)))
  have Z126 : n0 ≤ h120.size := Nat.le_trans Z117 (Keep.of_wr W120).1
  have K127 : Keep h0 h120 [r0] := K118.wr W120 (Or.inl (List.mem_of_getElem? (i := 0) rfl))
  have N128 := Fr.snoc X120 N119 g_r0
  obtain ⟨T129, h129, X129, e129, W129, st129⟩ := putFN X120 hx hZ hown (hw _ (List.mem_of_getElem? (i := 44) rfl)) Via.refl e120 F125 F121 (Or.inr ⟨(hw _ (List.mem_of_getElem? (i := 45) rfl)), rfl, hnm⟩) (hw _ (List.mem_of_getElem? (i := 27) rfl)) (ty := .boolean) (v' := (.int (nar .boolean p4))) (by decide) rfl (fits_nar_bool _) (g := (mkF m 22 #[.val (.ref r0), .val .null, .val (.int p2), .val (.int p3), .val (.int p4)] [(.int p4), (.ref r0)])) rfl rfl (hb hby d6_22)
  have F130 := F121.wr W129
  have F131 := F122.other W129 (Or.inr (slot_ne (Or.inr (hw _ (List.mem_of_getElem? (i := 39) rfl))) (Or.inr (hw _ (List.mem_of_getElem? (i := 45) rfl))) (by decide) (t := (.object "java/lang/String")) (t' := .boolean) (by decide) (by decide)))
  have F132 := F123.other W129 (Or.inr (slot_ne (Or.inr (hw _ (List.mem_of_getElem? (i := 41) rfl))) (Or.inr (hw _ (List.mem_of_getElem? (i := 45) rfl))) (by decide) (t := .int) (t' := .boolean) (by decide) (by decide)))
  have F133 := F124.other W129 (Or.inr (slot_ne (Or.inr (hw _ (List.mem_of_getElem? (i := 43) rfl))) (Or.inr (hw _ (List.mem_of_getElem? (i := 45) rfl))) (by decide) (t := .int) (t' := .boolean) (by decide) (by decide)))
  have F134 := F125.same W129
  have Z135 : n0 ≤ h129.size := Nat.le_trans Z126 (Keep.of_wr W129).1
  have K136 : Keep h0 h129 [r0] := K127.wr W129 (Or.inl (List.mem_of_getElem? (i := 0) rfl))
  have N137 := Fr.snoc X129 N128 g_r0
  have hgo138 : ∀ t, Steps p.tables e below (T129.setTop (mkF m 25 #[.val (.ref r0), .val .null, .val (.int p2), .val (.int p3), .val (.int p4)] [])) t → Steps p.tables e below (s₁.setTop (mkF m 0 #[.val (.ref r0), .val .null, .val (.int p2), .val (.int p3), .val (.int p4)] [])) t := by
    intro t kt
    show Steps p.tables e below (s₁.setTop (mkF m 0 #[.val (.ref r0), .val .null, .val (.int p2), .val (.int p3), .val (.int p4)] [])) _
    refine XS.aloadN X0.here hx rfl (hb hby d6_0) rfl rfl ?_
    show Steps p.tables e below (s₁.setTop (mkF m 1 #[.val (.ref r0), .val .null, .val (.int p2), .val (.int p3), .val (.int p4)] [(.ref r0)])) _
    refine st101.trans ?_
    show Steps p.tables e below (T101.setTop (mkF m 4 #[.val (.ref r0), .val .null, .val (.int p2), .val (.int p3), .val (.int p4)] [])) _
    refine XS.aloadN X101.here hx rfl (hb hby d6_4) rfl rfl ?_
    show Steps p.tables e below (T101.setTop (mkF m 5 #[.val (.ref r0), .val .null, .val (.int p2), .val (.int p3), .val (.int p4)] [(.ref r0)])) _
    refine XS.aloadN X101.here hx rfl (hb hby d6_5) rfl rfl ?_
    show Steps p.tables e below (T101.setTop (mkF m 6 #[.val (.ref r0), .val .null, .val (.int p2), .val (.int p3), .val (.int p4)] [.null, (.ref r0)])) _
    refine st102 _ ?_
    show Steps p.tables e below (T102.setTop (mkF m 9 #[.val (.ref r0), .val .null, .val (.int p2), .val (.int p3), .val (.int p4)] [])) _
    refine XS.aloadN X102.here hx rfl (hb hby d6_9) rfl rfl ?_
    show Steps p.tables e below (T102.setTop (mkF m 10 #[.val (.ref r0), .val .null, .val (.int p2), .val (.int p3), .val (.int p4)] [(.ref r0)])) _
    refine XS.iloadN X102.here hx rfl (hb hby d6_10) rfl ?_
    show Steps p.tables e below (T102.setTop (mkF m 11 #[.val (.ref r0), .val .null, .val (.int p2), .val (.int p3), .val (.int p4)] [(.int p2), (.ref r0)])) _
    refine st111 _ ?_
    show Steps p.tables e below (T111.setTop (mkF m 14 #[.val (.ref r0), .val .null, .val (.int p2), .val (.int p3), .val (.int p4)] [])) _
    refine XS.aloadN X111.here hx rfl (hb hby d6_14) rfl rfl ?_
    show Steps p.tables e below (T111.setTop (mkF m 15 #[.val (.ref r0), .val .null, .val (.int p2), .val (.int p3), .val (.int p4)] [(.ref r0)])) _
    refine XS.iloadN X111.here hx rfl (hb hby d6_15) rfl ?_
    show Steps p.tables e below (T111.setTop (mkF m 16 #[.val (.ref r0), .val .null, .val (.int p2), .val (.int p3), .val (.int p4)] [(.int p3), (.ref r0)])) _
    refine st120 _ ?_
    show Steps p.tables e below (T120.setTop (mkF m 19 #[.val (.ref r0), .val .null, .val (.int p2), .val (.int p3), .val (.int p4)] [])) _
    refine XS.aloadN X120.here hx rfl (hb hby d6_19) rfl rfl ?_
    show Steps p.tables e below (T120.setTop (mkF m 20 #[.val (.ref r0), .val .null, .val (.int p2), .val (.int p3), .val (.int p4)] [(.ref r0)])) _
    refine XS.iload X120.here hx rfl (hb hby d6_20) rfl ?_
    show Steps p.tables e below (T120.setTop (mkF m 22 #[.val (.ref r0), .val .null, .val (.int p2), .val (.int p3), .val (.int p4)] [(.int p4), (.ref r0)])) _
    refine st129 _ ?_
    exact kt
  refine own_go hgo138 ?_
  exact own_retV X129 hx Bd.returns Bd.notSynchronized (hb hby d6_25) (by decide) (by decide) (by rw [e129]; exact ⟨(by rfl), N137, K136, F130, (by exact F131), (by exact F132), (by exact F133), (by exact F134)⟩)
theorem ef_6r (m : MethodId) (r0 : Addr) (r1 : Addr) (p2 : Int32) (p3 : Int32) (p4 : Int32) : entryFrame m #[(.ref r0), (.ref r1), (.int p2), (.int p3), (.int p4)] 5 = mkF m 0 #[.val (.ref r0), .val (.ref r1), .val (.int p2), .val (.int p3), .val (.int p4)] [] := by (first | (simp [entryFrame, mkF, argsToLocals, Value.category]; done) | rfl)
def Q6r (Z : State) (r0 : Addr) (r1 : Addr) (p2 : Int32) (p3 : Int32) (p4 : Int32) (u_relation_r0 : Value) (w6 : Int32) (w7 : Int32) (w8 : Int32) (h0 : Heap) (n0 : Nat) (v : Option Value) (h : Heap) (L : List Loc) : Prop := v = none ∧ Fr n0 L ∧ Keep h0 h [r0] ∧ Exa Z h r0 "inducere/OrderConstraints$Constraint" ∧ Fld Z h r0 "inducere/OrderConstraints$Constraint" "relation" "Ljava/lang/String;" (.ref r1) ∧ Fld Z h r0 "inducere/OrderConstraints$Constraint" "min" "I" (.int p2) ∧ Fld Z h r0 "inducere/OrderConstraints$Constraint" "max" "I" (.int p3) ∧ Fld Z h r0 "inducere/OrderConstraints$Constraint" "bounded" "Z" (.int (nar .boolean p4))
set_option maxRecDepth 65536 in
set_option maxHeartbeats 40000000 in
theorem rm6r (l : Launch) (Z : State) (a0 : Array Value) (hw : ∀ d ∈ tables_1, d.before a0 Z = true) (ws : List Jvm.Cond) (r0 : Addr) (r1 : Addr) (p2 : Int32) (p3 : Int32) (p4 : Int32) (u_relation_r0 : Value) (w6 : Int32) (w7 : Int32) (w8 : Int32) (h0 : Heap) (n0 : Nat) (Z0 : n0 ≤ h0.size) (E_r0 : Exa Z h0 r0 "inducere/OrderConstraints$Constraint") (F_relation_r0 : Fld Z h0 r0 "inducere/OrderConstraints$Constraint" "relation" "Ljava/lang/String;" u_relation_r0) (F_min_r0 : Fld Z h0 r0 "inducere/OrderConstraints$Constraint" "min" "I" (.int w6)) (F_max_r0 : Fld Z h0 r0 "inducere/OrderConstraints$Constraint" "max" "I" (.int w7)) (F_bounded_r0 : Fld Z h0 r0 "inducere/OrderConstraints$Constraint" "bounded" "Z" (.int w8)) (g_r0 : n0 ≤ r0) :
    MetFree l (⟨"inducere/OrderConstraints$Constraint", "<init>", "(Ljava/lang/String;IIZ)V"⟩ : MethodName) (head1 (Jvm.Cond.code (⟨"inducere/OrderConstraints$Constraint", "<init>", "(Ljava/lang/String;IIZ)V"⟩ : MethodName) prog_75_method_1_code 5 none :: ws) ({ frames := 2, cells := 0, slots := 0, locals := 24 } : Room)) (fun a U => a = #[(.ref r0), (.ref r1), (.int p2), (.int p3), (.int p4)] ∧ Z.Warmed39 U.vm ∧ U.heap = h0) (fun _ _ _ _ _ => True) (fun _ U o U' => ∃ v L, o = .returned v ∧ Q6r Z r0 r1 p2 p3 p4 u_relation_r0 w6 w7 w8 h0 n0 v U'.heap L ∧ FrameEnd U o U' L ({ frames := 2, cells := 0, slots := 0, locals := 24 } : Room).cells ({ frames := 2, cells := 0, slots := 0, locals := 24 } : Room).slots) := by
  refine MetFree.of_bodySF (plainFor_of_name pn7) hisR ?_
  intro p e s m args below meth c s₁ Bd hml0 hP hK
  obtain ⟨rfl, hZ, hh⟩ := hP
  have hx := Bd.exec
  have hby := Bd.bytes
  have hml : c.maxLocals = 5 := hml0
  have hown : s.vm.findClass "inducere/OrderConstraints$Constraint" = some m.cls := findClass_of_methodNamed Bd.named
  have hnm := (name_of_methodNamed Bd.named Bd.method).1
  have X0 : Stand p l e ({ frames := 2, cells := 0, slots := 0, locals := 24 } : Room) s m #[(.ref r0), (.ref r1), (.int p2), (.int p3), (.int p4)] below meth c s₁ [] 0 0 := Stand.of_body Bd
  have e0 : s₁.heap = h0 := by rw [← hh, Bd.state]; rfl
  have N0 := Fr.nil n0
  have K0 : Keep h0 h0 [r0] := Keep.refl h0 _
  show own_Go p e below s (Q6r Z r0 r1 p2 p3 p4 u_relation_r0 w6 w7 w8 h0 n0) ({ frames := 2, cells := 0, slots := 0, locals := 24 } : Room).cells ({ frames := 2, cells := 0, slots := 0, locals := 24 } : Room).slots (s₁.setTop (entryFrame m #[(.ref r0), (.ref r1), (.int p2), (.int p3), (.int p4)] 5))
  refine own_go (fun t k => castTop (ef_6r m r0 r1 p2 p3 p4) k) ?_
  obtain ⟨_, _, ⟨T101, L101, k101, n101⟩, -, X101, ⟨Lc101, hQ101, l101, y101, z101⟩, st101⟩ := X0.specialBack hx (y := (⟨"java/lang/Record", "<init>", "()V"⟩ : MethodName)) rfl hown (mvT hZ (hw _ (List.mem_of_getElem? (i := 32) rfl))) (mvT hZ (hw _ (List.mem_of_getElem? (i := 33) rfl))) (mvT hZ (hw _ (List.mem_of_getElem? (i := 36) rfl))) (by decide) (backOf (W := 0) (rm7 l Z a0 hw [] r0 h0 n0 Z0 ) hZ (hw _ (List.mem_of_getElem? (i := 36) rfl)) (hw _ (List.mem_of_getElem? (i := 35) rfl)) (by decide) (by decide)) (g := (mkF m 1 #[.val (.ref r0), .val (.ref r1), .val (.int p2), .val (.int p3), .val (.int p4)] [(.ref r0)])) rfl (by rw [hml]; rfl) (Steps.refl _) (a := r0) (argsL := []) (rest := []) (lenOf pd6 rfl) rfl (by show 2 * 0 + _ ≤ _; exact Nat.le_of_eq rfl) (hb hby d6_1) (fun _ _ => ⟨rfl, e0, (by decide : 0 + 0 ≤ _), (by decide : 0 + 0 ≤ _)⟩)
  dsimp only [Pt.U, Pt.locs, Pt.cells, Pt.slots] at X101 l101 y101 z101 st101 hQ101
  subst l101 y101 z101
  obtain ⟨rfl, N101q, e101⟩ := hQ101
  have N101 := Fr.app N0 N101q
  obtain ⟨T102, h102, X102, e102, W102, st102⟩ := putF X101 hx hZ hown (host := "") (Or.inl (hw _ (List.mem_of_getElem? (i := 38) rfl))) Via.refl e101 F_relation_r0 E_r0 (Or.inr ⟨(hw _ (List.mem_of_getElem? (i := 39) rfl)), rfl, hnm⟩) (hw _ (List.mem_of_getElem? (i := 27) rfl)) (ty := (.object "java/lang/String")) (by decide) rfl rfl (g := (mkF m 6 #[.val (.ref r0), .val (.ref r1), .val (.int p2), .val (.int p3), .val (.int p4)] [(.ref r1), (.ref r0)])) rfl rfl (hb hby d6_6)
  have F103 := E_r0.wr W102
  have F104 := F_relation_r0.same W102
  have F105 := F_min_r0.other W102 (Or.inr (slot_ne (Or.inr (hw _ (List.mem_of_getElem? (i := 41) rfl))) (Or.inr (hw _ (List.mem_of_getElem? (i := 39) rfl))) (by decide) (t := .int) (t' := (.object "java/lang/String")) (by decide) (by decide)))
  have F106 := F_max_r0.other W102 (Or.inr (slot_ne (Or.inr (hw _ (List.mem_of_getElem? (i := 43) rfl))) (Or.inr (hw _ (List.mem_of_getElem? (i := 39) rfl))) (by decide) (t := .int) (t' := (.object "java/lang/String")) (by decide) (by decide)))
  have F107 := F_bounded_r0.other W102 (Or.inr (slot_ne (Or.inr (hw _ (List.mem_of_getElem? (i := 45) rfl))) (Or.inr (hw _ (List.mem_of_getElem? (i := 39) rfl))) (by decide) (t := .boolean) (t' := (.object "java/lang/String")) (by decide) (by decide)))
  have Z108 : n0 ≤ h102.size := Nat.le_trans Z0 (Keep.of_wr W102).1
  have K109 : Keep h0 h102 [r0] := K0.wr W102 (Or.inl (List.mem_of_getElem? (i := 0) rfl))
  have N110 := Fr.snoc X102 N101 g_r0
  obtain ⟨T111, h111, X111, e111, W111, st111⟩ := putF X102 hx hZ hown (host := "") (Or.inl (hw _ (List.mem_of_getElem? (i := 40) rfl))) Via.refl e102 F105 F103 (Or.inr ⟨(hw _ (List.mem_of_getElem? (i := 41) rfl)), rfl, hnm⟩) (hw _ (List.mem_of_getElem? (i := 27) rfl)) (ty := .int) (by decide) rfl rfl (g := (mkF m 11 #[.val (.ref r0), .val (.ref r1), .val (.int p2), .val (.int p3), .val (.int p4)] [(.int p2), (.ref r0)])) rfl rfl (hb hby d6_11)
  have F112 := F103.wr W111
  have F113 := F104.other W111 (Or.inr (slot_ne (Or.inr (hw _ (List.mem_of_getElem? (i := 39) rfl))) (Or.inr (hw _ (List.mem_of_getElem? (i := 41) rfl))) (by decide) (t := (.object "java/lang/String")) (t' := .int) (by decide) (by decide)))
  have F114 := F105.same W111
  have F115 := F106.other W111 (Or.inr (slot_ne (Or.inr (hw _ (List.mem_of_getElem? (i := 43) rfl))) (Or.inr (hw _ (List.mem_of_getElem? (i := 41) rfl))) (by decide) (t := .int) (t' := .int) (by decide) (by decide)))
  have F116 := F107.other W111 (Or.inr (slot_ne (Or.inr (hw _ (List.mem_of_getElem? (i := 45) rfl))) (Or.inr (hw _ (List.mem_of_getElem? (i := 41) rfl))) (by decide) (t := .boolean) (t' := .int) (by decide) (by decide)))
  have Z117 : n0 ≤ h111.size := Nat.le_trans Z108 (Keep.of_wr W111).1
  have K118 : Keep h0 h111 [r0] := K109.wr W111 (Or.inl (List.mem_of_getElem? (i := 0) rfl))
  have N119 := Fr.snoc X111 N110 g_r0
  obtain ⟨T120, h120, X120, e120, W120, st120⟩ := putF X111 hx hZ hown (host := "") (Or.inl (hw _ (List.mem_of_getElem? (i := 42) rfl))) Via.refl e111 F115 F112 (Or.inr ⟨(hw _ (List.mem_of_getElem? (i := 43) rfl)), rfl, hnm⟩) (hw _ (List.mem_of_getElem? (i := 27) rfl)) (ty := .int) (by decide) rfl rfl (g := (mkF m 16 #[.val (.ref r0), .val (.ref r1), .val (.int p2), .val (.int p3), .val (.int p4)] [(.int p3), (.ref r0)])) rfl rfl (hb hby d6_16)
  have F121 := F112.wr W120
  have F122 := F113.other W120 (Or.inr (slot_ne (Or.inr (hw _ (List.mem_of_getElem? (i := 39) rfl))) (Or.inr (hw _ (List.mem_of_getElem? (i := 43) rfl))) (by decide) (t := (.object "java/lang/String")) (t' := .int) (by decide) (by decide)))
  have F123 := F114.other W120 (Or.inr (slot_ne (Or.inr (hw _ (List.mem_of_getElem? (i := 41) rfl))) (Or.inr (hw _ (List.mem_of_getElem? (i := 43) rfl))) (by decide) (t := .int) (t' := .int) (by decide) (by decide)))
  have F124 := F115.same W120
  have F125 := F116.other W120 (Or.inr (slot_ne (Or.inr (hw _ (List.mem_of_getElem? (i := 45) rfl))) (Or.inr (hw _ (List.mem_of_getElem? (i := 43) rfl))) (by decide) (t := .boolean) (t' := .int) (by decide) (by decide)))
  have Z126 : n0 ≤ h120.size := Nat.le_trans Z117 (Keep.of_wr W120).1
  have K127 : Keep h0 h120 [r0] := K118.wr W120 (Or.inl (List.mem_of_getElem? (i := 0) rfl))
  have N128 := Fr.snoc X120 N119 g_r0
  obtain ⟨T129, h129, X129, e129, W129, st129⟩ := putFN X120 hx hZ hown (hw _ (List.mem_of_getElem? (i := 44) rfl)) Via.refl e120 F125 F121 (Or.inr ⟨(hw _ (List.mem_of_getElem? (i := 45) rfl)), rfl, hnm⟩) (hw _ (List.mem_of_getElem? (i := 27) rfl)) (ty := .boolean) (v' := (.int (nar .boolean p4))) (by decide) rfl (fits_nar_bool _) (g := (mkF m 22 #[.val (.ref r0), .val (.ref r1), .val (.int p2), .val (.int p3), .val (.int p4)] [(.int p4), (.ref r0)])) rfl rfl (hb hby d6_22)
  have F130 := F121.wr W129
  have F131 := F122.other W129 (Or.inr (slot_ne (Or.inr (hw _ (List.mem_of_getElem? (i := 39) rfl))) (Or.inr (hw _ (List.mem_of_getElem? (i := 45) rfl))) (by decide) (t := (.object "java/lang/String")) (t' := .boolean) (by decide) (by decide)))
  have F132 := F123.other W129 (Or.inr (slot_ne (Or.inr (hw _ (List.mem_of_getElem? (i := 41) rfl))) (Or.inr (hw _ (List.mem_of_getElem? (i := 45) rfl))) (by decide) (t := .int) (t' := .boolean) (by decide) (by decide)))
  have F133 := F124.other W129 (Or.inr (slot_ne (Or.inr (hw _ (List.mem_of_getElem? (i := 43) rfl))) (Or.inr (hw _ (List.mem_of_getElem? (i := 45) rfl))) (by decide) (t := .int) (t' := .boolean) (by decide) (by decide)))
  have F134 := F125.same W129
  have Z135 : n0 ≤ h129.size := Nat.le_trans Z126 (Keep.of_wr W129).1
  have K136 : Keep h0 h129 [r0] := K127.wr W129 (Or.inl (List.mem_of_getElem? (i := 0) rfl))
  have N137 := Fr.snoc X129 N128 g_r0
  have hgo138 : ∀ t, Steps p.tables e below (T129.setTop (mkF m 25 #[.val (.ref r0), .val (.ref r1), .val (.int p2), .val (.int p3), .val (.int p4)] [])) t → Steps p.tables e below (s₁.setTop (mkF m 0 #[.val (.ref r0), .val (.ref r1), .val (.int p2), .val (.int p3), .val (.int p4)] [])) t := by
    intro t kt
    show Steps p.tables e below (s₁.setTop (mkF m 0 #[.val (.ref r0), .val (.ref r1), .val (.int p2), .val (.int p3), .val (.int p4)] [])) _
    refine XS.aloadN X0.here hx rfl (hb hby d6_0) rfl rfl ?_
    show Steps p.tables e below (s₁.setTop (mkF m 1 #[.val (.ref r0), .val (.ref r1), .val (.int p2), .val (.int p3), .val (.int p4)] [(.ref r0)])) _
    refine st101.trans ?_
    show Steps p.tables e below (T101.setTop (mkF m 4 #[.val (.ref r0), .val (.ref r1), .val (.int p2), .val (.int p3), .val (.int p4)] [])) _
    refine XS.aloadN X101.here hx rfl (hb hby d6_4) rfl rfl ?_
    show Steps p.tables e below (T101.setTop (mkF m 5 #[.val (.ref r0), .val (.ref r1), .val (.int p2), .val (.int p3), .val (.int p4)] [(.ref r0)])) _
    refine XS.aloadN X101.here hx rfl (hb hby d6_5) rfl rfl ?_
    show Steps p.tables e below (T101.setTop (mkF m 6 #[.val (.ref r0), .val (.ref r1), .val (.int p2), .val (.int p3), .val (.int p4)] [(.ref r1), (.ref r0)])) _
    refine st102 _ ?_
    show Steps p.tables e below (T102.setTop (mkF m 9 #[.val (.ref r0), .val (.ref r1), .val (.int p2), .val (.int p3), .val (.int p4)] [])) _
    refine XS.aloadN X102.here hx rfl (hb hby d6_9) rfl rfl ?_
    show Steps p.tables e below (T102.setTop (mkF m 10 #[.val (.ref r0), .val (.ref r1), .val (.int p2), .val (.int p3), .val (.int p4)] [(.ref r0)])) _
    refine XS.iloadN X102.here hx rfl (hb hby d6_10) rfl ?_
    show Steps p.tables e below (T102.setTop (mkF m 11 #[.val (.ref r0), .val (.ref r1), .val (.int p2), .val (.int p3), .val (.int p4)] [(.int p2), (.ref r0)])) _
    refine st111 _ ?_
    show Steps p.tables e below (T111.setTop (mkF m 14 #[.val (.ref r0), .val (.ref r1), .val (.int p2), .val (.int p3), .val (.int p4)] [])) _
    refine XS.aloadN X111.here hx rfl (hb hby d6_14) rfl rfl ?_
    show Steps p.tables e below (T111.setTop (mkF m 15 #[.val (.ref r0), .val (.ref r1), .val (.int p2), .val (.int p3), .val (.int p4)] [(.ref r0)])) _
    refine XS.iloadN X111.here hx rfl (hb hby d6_15) rfl ?_
    show Steps p.tables e below (T111.setTop (mkF m 16 #[.val (.ref r0), .val (.ref r1), .val (.int p2), .val (.int p3), .val (.int p4)] [(.int p3), (.ref r0)])) _
    refine st120 _ ?_
    show Steps p.tables e below (T120.setTop (mkF m 19 #[.val (.ref r0), .val (.ref r1), .val (.int p2), .val (.int p3), .val (.int p4)] [])) _
    refine XS.aloadN X120.here hx rfl (hb hby d6_19) rfl rfl ?_
    show Steps p.tables e below (T120.setTop (mkF m 20 #[.val (.ref r0), .val (.ref r1), .val (.int p2), .val (.int p3), .val (.int p4)] [(.ref r0)])) _
    refine XS.iload X120.here hx rfl (hb hby d6_20) rfl ?_
    show Steps p.tables e below (T120.setTop (mkF m 22 #[.val (.ref r0), .val (.ref r1), .val (.int p2), .val (.int p3), .val (.int p4)] [(.int p4), (.ref r0)])) _
    refine st129 _ ?_
    exact kt
  refine own_go hgo138 ?_
  exact own_retV X129 hx Bd.returns Bd.notSynchronized (hb hby d6_25) (by decide) (by decide) (by rw [e129]; exact ⟨(by rfl), N137, K136, F130, (by exact F131), (by exact F132), (by exact F133), (by exact F134)⟩)
theorem d8_0 : decode prog_75_method_2_code 0 = .ok (.aload_n 0, 1) := by decide +kernel
theorem d8_1 : decode prog_75_method_2_code 1 = .ok (.getfield 15, 3) := by decide +kernel
theorem d8_4 : decode prog_75_method_2_code 4 = .ok (.iload_n 1, 1) := by decide +kernel
theorem d8_5 : decode prog_75_method_2_code 5 = .ok (.if_icmp .gt 15, 3) := by decide +kernel
theorem d8_8 : decode prog_75_method_2_code 8 = .ok (.iload_n 1, 1) := by decide +kernel
theorem d8_9 : decode prog_75_method_2_code 9 = .ok (.aload_n 0, 1) := by decide +kernel
theorem d8_10 : decode prog_75_method_2_code 10 = .ok (.getfield 19, 3) := by decide +kernel
theorem d8_13 : decode prog_75_method_2_code 13 = .ok (.if_icmp .gt 7, 3) := by decide +kernel
theorem d8_16 : decode prog_75_method_2_code 16 = .ok (.iconst 1, 1) := by decide +kernel
theorem d8_17 : decode prog_75_method_2_code 17 = .ok (.goto 4, 3) := by decide +kernel
theorem d8_20 : decode prog_75_method_2_code 20 = .ok (.iconst 0, 1) := by decide +kernel
theorem d8_21 : decode prog_75_method_2_code 21 = .ok (.ireturn, 1) := by decide +kernel
theorem ef_8 (m : MethodId) (r0 : Addr) (p1 : Int32) : entryFrame m #[(.ref r0), (.int p1)] 2 = mkF m 0 #[.val (.ref r0), .val (.int p1)] [] := by (first | (simp [entryFrame, mkF, argsToLocals, Value.category]; done) | rfl)
def own_r8 (p1 : Int32) (w2 : Int32) (w3 : Int32) : Int32 := (if p1 < w2 then (0 : Int32) else (if w3 < p1 then (0 : Int32) else (1 : Int32)))
theorem own_r8_b (p1 : Int32) (w2 : Int32) (w3 : Int32) : own_r8 p1 w2 w3 = 0 ∨ own_r8 p1 w2 w3 = 1 := by unfold own_r8; exact (own_ite01 (Or.inl rfl) (own_ite01 (Or.inl rfl) (Or.inr rfl)))
def Q8 (Z : State) (r0 : Addr) (p1 : Int32) (w2 : Int32) (w3 : Int32) (h0 : Heap) (n0 : Nat) (v : Option Value) (h : Heap) (L : List Loc) : Prop := v = some (.int (own_r8 p1 w2 w3)) ∧ Fr n0 L ∧ h = h0
set_option maxRecDepth 65536 in
set_option maxHeartbeats 40000000 in
theorem rm8 (l : Launch) (Z : State) (a0 : Array Value) (hw : ∀ d ∈ tables_1, d.before a0 Z = true) (ws : List Jvm.Cond) (r0 : Addr) (p1 : Int32) (w2 : Int32) (w3 : Int32) (h0 : Heap) (n0 : Nat) (Z0 : n0 ≤ h0.size) (F_min_r0 : Fld Z h0 r0 "inducere/OrderConstraints$Constraint" "min" "I" (.int w2)) (F_max_r0 : Fld Z h0 r0 "inducere/OrderConstraints$Constraint" "max" "I" (.int w3)) :
    MetFree l (⟨"inducere/OrderConstraints$Constraint", "holds", "(I)Z"⟩ : MethodName) (head1 (Jvm.Cond.code (⟨"inducere/OrderConstraints$Constraint", "holds", "(I)Z"⟩ : MethodName) prog_75_method_2_code 2 (some .boolean) :: ws) ({ frames := 0, cells := 0, slots := 0, locals := 0 } : Room)) (fun a U => a = #[(.ref r0), (.int p1)] ∧ Z.Warmed39 U.vm ∧ U.heap = h0) (fun _ _ _ _ _ => True) (fun _ U o U' => ∃ v L, o = .returned v ∧ Q8 Z r0 p1 w2 w3 h0 n0 v U'.heap L ∧ FrameEnd U o U' L ({ frames := 0, cells := 0, slots := 0, locals := 0 } : Room).cells ({ frames := 0, cells := 0, slots := 0, locals := 0 } : Room).slots) := by
  refine MetFree.of_bodySF (plainFor_of_name pn7) hisR ?_
  intro p e s m args below meth c s₁ Bd hml0 hP hK
  obtain ⟨rfl, hZ, hh⟩ := hP
  have hx := Bd.exec
  have hby := Bd.bytes
  have hml : c.maxLocals = 2 := hml0
  have hown : s.vm.findClass "inducere/OrderConstraints$Constraint" = some m.cls := findClass_of_methodNamed Bd.named
  have hnm := (name_of_methodNamed Bd.named Bd.method).1
  have X0 : Stand p l e ({ frames := 0, cells := 0, slots := 0, locals := 0 } : Room) s m #[(.ref r0), (.int p1)] below meth c s₁ [] 0 0 := Stand.of_body Bd
  have e0 : s₁.heap = h0 := by rw [← hh, Bd.state]; rfl
  have N0 := Fr.nil n0
  have K0 : Keep h0 h0 [] := Keep.refl h0 _
  show own_Go p e below s (Q8 Z r0 p1 w2 w3 h0 n0) ({ frames := 0, cells := 0, slots := 0, locals := 0 } : Room).cells ({ frames := 0, cells := 0, slots := 0, locals := 0 } : Room).slots (s₁.setTop (entryFrame m #[(.ref r0), (.int p1)] 2))
  refine own_go (fun t k => castTop (ef_8 m r0 p1) k) ?_
  obtain ⟨T101, X101, e101, st101⟩ := getF X0 hx hZ hown (host := "") (Or.inl (hw _ (List.mem_of_getElem? (i := 40) rfl))) Via.refl e0 F_min_r0 (g := (mkF m 1 #[.val (.ref r0), .val (.int p1)] [(.ref r0)])) rfl rfl (hb hby d8_1)
  obtain ⟨v3, hv3⟩ : ∃ z : Int32, z = (if w3 < p1 then (0 : Int32) else (1 : Int32)) := ⟨_, rfl⟩
  obtain ⟨v4, hv4⟩ : ∃ z : Int32, z = (if p1 < w2 then (0 : Int32) else v3) := ⟨_, rfl⟩
  obtain ⟨T108, lc108, X108, N108, e108, st108⟩ := own_mrg (n0 := n0) (h := h0) (g := (mkF m 5 #[.val (.ref r0), .val (.int p1)] [(.int p1), (.int w2)])) (g' := (mkF m 21 #[.val (.ref r0), .val (.int p1)] [(.int v4)])) X101 (by
    by_cases hc5_1 : p1 < w2
    · have hgo102 : ∀ t, Steps p.tables e below (T101.setTop (mkF m 21 #[.val (.ref r0), .val (.int p1)] [(.int (0 : Int32))])) t → Steps p.tables e below (T101.setTop (mkF m 5 #[.val (.ref r0), .val (.int p1)] [(.int p1), (.int w2)])) t := by
        intro t kt
        show Steps p.tables e below (T101.setTop (mkF m 5 #[.val (.ref r0), .val (.int p1)] [(.int p1), (.int w2)])) _
        refine XS.icmpYes X101.here hx rfl (pc0 := 5) (pc' := 20) rfl (hb hby d8_5) rfl (tlt hc5_1).2.2.1 (by decide) (by decide) ?_
        show Steps p.tables e below (T101.setTop (mkF m 20 #[.val (.ref r0), .val (.int p1)] [])) _
        refine XS.iconst X101.here hx rfl (hb hby d8_20) ?_
        exact kt
      refine own_arm hgo102 ?_
      exact own_armEnd X101 N0 e101 (by rw [hv4.trans (if_pos hc5_1)])
    · obtain ⟨T103, X103, e103, st103⟩ := getF X101 hx hZ hown (host := "") (Or.inl (hw _ (List.mem_of_getElem? (i := 42) rfl))) Via.refl e101 F_max_r0 (g := (mkF m 10 #[.val (.ref r0), .val (.int p1)] [(.ref r0), (.int p1)])) rfl rfl (hb hby d8_10)
      obtain ⟨T106, lc106, X106, N106, e106, st106⟩ := own_mrg (n0 := n0) (h := h0) (g := (mkF m 13 #[.val (.ref r0), .val (.int p1)] [(.int w3), (.int p1)])) (g' := (mkF m 21 #[.val (.ref r0), .val (.int p1)] [(.int v3)])) X103 (by
        by_cases hc13_2 : w3 < p1
        · have hgo104 : ∀ t, Steps p.tables e below (T103.setTop (mkF m 21 #[.val (.ref r0), .val (.int p1)] [(.int (0 : Int32))])) t → Steps p.tables e below (T103.setTop (mkF m 13 #[.val (.ref r0), .val (.int p1)] [(.int w3), (.int p1)])) t := by
            intro t kt
            show Steps p.tables e below (T103.setTop (mkF m 13 #[.val (.ref r0), .val (.int p1)] [(.int w3), (.int p1)])) _
            refine XS.icmpYes X103.here hx rfl (pc0 := 13) (pc' := 20) rfl (hb hby d8_13) rfl (tlt hc13_2).2.2.1 (by decide) (by decide) ?_
            show Steps p.tables e below (T103.setTop (mkF m 20 #[.val (.ref r0), .val (.int p1)] [])) _
            refine XS.iconst X103.here hx rfl (hb hby d8_20) ?_
            exact kt
          refine own_arm hgo104 ?_
          exact own_armEnd X103 N0 e103 (by rw [hv3.trans (if_pos hc13_2)])
        · have hgo105 : ∀ t, Steps p.tables e below (T103.setTop (mkF m 21 #[.val (.ref r0), .val (.int p1)] [(.int (1 : Int32))])) t → Steps p.tables e below (T103.setTop (mkF m 13 #[.val (.ref r0), .val (.int p1)] [(.int w3), (.int p1)])) t := by
            intro t kt
            show Steps p.tables e below (T103.setTop (mkF m 13 #[.val (.ref r0), .val (.int p1)] [(.int w3), (.int p1)])) _
            refine XS.icmpNo X103.here hx rfl (hb hby d8_13) rfl (flt hc13_2).2.2.1 ?_
            show Steps p.tables e below (T103.setTop (mkF m 16 #[.val (.ref r0), .val (.int p1)] [])) _
            refine XS.iconst X103.here hx rfl (hb hby d8_16) ?_
            show Steps p.tables e below (T103.setTop (mkF m 17 #[.val (.ref r0), .val (.int p1)] [(.int (1 : Int32))])) _
            refine XS.goto X103.here hx rfl (pc0 := 17) (pc' := 21) rfl (hb hby d8_17) (by decide) (by decide) ?_
            exact kt
          refine own_arm hgo105 ?_
          exact own_armEnd X103 N0 e103 (by rw [hv3.trans (if_neg hc13_2)]))
      have hgo107 : ∀ t, Steps p.tables e below (T106.setTop (mkF m 21 #[.val (.ref r0), .val (.int p1)] [(.int v3)])) t → Steps p.tables e below (T101.setTop (mkF m 5 #[.val (.ref r0), .val (.int p1)] [(.int p1), (.int w2)])) t := by
        intro t kt
        show Steps p.tables e below (T101.setTop (mkF m 5 #[.val (.ref r0), .val (.int p1)] [(.int p1), (.int w2)])) _
        refine XS.icmpNo X101.here hx rfl (hb hby d8_5) rfl (flt hc5_1).2.2.1 ?_
        show Steps p.tables e below (T101.setTop (mkF m 8 #[.val (.ref r0), .val (.int p1)] [])) _
        refine XS.iloadN X101.here hx rfl (hb hby d8_8) rfl ?_
        show Steps p.tables e below (T101.setTop (mkF m 9 #[.val (.ref r0), .val (.int p1)] [(.int p1)])) _
        refine XS.aloadN X101.here hx rfl (hb hby d8_9) rfl rfl ?_
        show Steps p.tables e below (T101.setTop (mkF m 10 #[.val (.ref r0), .val (.int p1)] [(.ref r0), (.int p1)])) _
        refine st103 _ ?_
        show Steps p.tables e below (T103.setTop (mkF m 13 #[.val (.ref r0), .val (.int p1)] [(.int w3), (.int p1)])) _
        refine st106 _ ?_
        exact kt
      refine own_arm hgo107 ?_
      exact own_armEnd X106 N106 e106 (by rw [hv4.trans (if_neg hc5_1)]))
  have hgo109 : ∀ t, Steps p.tables e below (T108.setTop (mkF m 21 #[.val (.ref r0), .val (.int p1)] [(.int v4)])) t → Steps p.tables e below (s₁.setTop (mkF m 0 #[.val (.ref r0), .val (.int p1)] [])) t := by
    intro t kt
    show Steps p.tables e below (s₁.setTop (mkF m 0 #[.val (.ref r0), .val (.int p1)] [])) _
    refine XS.aloadN X0.here hx rfl (hb hby d8_0) rfl rfl ?_
    show Steps p.tables e below (s₁.setTop (mkF m 1 #[.val (.ref r0), .val (.int p1)] [(.ref r0)])) _
    refine st101 _ ?_
    show Steps p.tables e below (T101.setTop (mkF m 4 #[.val (.ref r0), .val (.int p1)] [(.int w2)])) _
    refine XS.iloadN X101.here hx rfl (hb hby d8_4) rfl ?_
    show Steps p.tables e below (T101.setTop (mkF m 5 #[.val (.ref r0), .val (.int p1)] [(.int p1), (.int w2)])) _
    refine st108 _ ?_
    exact kt
  refine own_go hgo109 ?_
  exact own_retZ X108 hx Bd.returns Bd.notSynchronized (hb hby d8_21) (by decide) (by decide) (by rw [hv4]; exact (own_ite01 (Or.inl rfl) (by rw [hv3]; exact (own_ite01 (Or.inl rfl) (Or.inr rfl))))) (by rw [e108]; exact ⟨(by subst hv4 hv3; rw [own_r8]), N108, rfl⟩)
theorem d9_0 : decode prog_75_method_5_code 0 = .ok (.aload_n 0, 1) := by decide +kernel
theorem d9_1 : decode prog_75_method_5_code 1 = .ok (.getfield 15, 3) := by decide +kernel
theorem d9_4 : decode prog_75_method_5_code 4 = .ok (.ifCond .ne 16, 3) := by decide +kernel
theorem d9_7 : decode prog_75_method_5_code 7 = .ok (.aload_n 0, 1) := by decide +kernel
theorem d9_8 : decode prog_75_method_5_code 8 = .ok (.getfield 19, 3) := by decide +kernel
theorem d9_11 : decode prog_75_method_5_code 11 = .ok (.ldc 36, 2) := by decide +kernel
theorem d9_13 : decode prog_75_method_5_code 13 = .ok (.if_icmp .ne 7, 3) := by decide +kernel
theorem d9_16 : decode prog_75_method_5_code 16 = .ok (.iconst 1, 1) := by decide +kernel
theorem d9_17 : decode prog_75_method_5_code 17 = .ok (.goto 4, 3) := by decide +kernel
theorem d9_20 : decode prog_75_method_5_code 20 = .ok (.iconst 0, 1) := by decide +kernel
theorem d9_21 : decode prog_75_method_5_code 21 = .ok (.ireturn, 1) := by decide +kernel
theorem ef_9 (m : MethodId) (r0 : Addr) : entryFrame m #[(.ref r0)] 1 = mkF m 0 #[.val (.ref r0)] [] := by (first | (simp [entryFrame, mkF, argsToLocals, Value.category]; done) | rfl)
def own_r9 (w1 : Int32) (w2 : Int32) : Int32 := (if w1 = (0 : Int32) then (if w2 = (2147483647 : Int32) then (1 : Int32) else (0 : Int32)) else (0 : Int32))
theorem own_r9_b (w1 : Int32) (w2 : Int32) : own_r9 w1 w2 = 0 ∨ own_r9 w1 w2 = 1 := by unfold own_r9; exact (own_ite01 (own_ite01 (Or.inr rfl) (Or.inl rfl)) (Or.inl rfl))
def Q9 (Z : State) (r0 : Addr) (w1 : Int32) (w2 : Int32) (h0 : Heap) (n0 : Nat) (v : Option Value) (h : Heap) (L : List Loc) : Prop := v = some (.int (own_r9 w1 w2)) ∧ Fr n0 L ∧ h = h0
set_option maxRecDepth 65536 in
set_option maxHeartbeats 40000000 in
theorem rm9 (l : Launch) (Z : State) (a0 : Array Value) (hw : ∀ d ∈ tables_1, d.before a0 Z = true) (ws : List Jvm.Cond) (r0 : Addr) (w1 : Int32) (w2 : Int32) (h0 : Heap) (n0 : Nat) (Z0 : n0 ≤ h0.size) (F_min_r0 : Fld Z h0 r0 "inducere/OrderConstraints$Constraint" "min" "I" (.int w1)) (F_max_r0 : Fld Z h0 r0 "inducere/OrderConstraints$Constraint" "max" "I" (.int w2)) :
    MetFree l (⟨"inducere/OrderConstraints$Constraint", "allowsAll", "()Z"⟩ : MethodName) (head1 (Jvm.Cond.code (⟨"inducere/OrderConstraints$Constraint", "allowsAll", "()Z"⟩ : MethodName) prog_75_method_5_code 1 (some .boolean) :: ws) ({ frames := 0, cells := 0, slots := 0, locals := 0 } : Room)) (fun a U => a = #[(.ref r0)] ∧ Z.Warmed39 U.vm ∧ U.heap = h0) (fun _ _ _ _ _ => True) (fun _ U o U' => ∃ v L, o = .returned v ∧ Q9 Z r0 w1 w2 h0 n0 v U'.heap L ∧ FrameEnd U o U' L ({ frames := 0, cells := 0, slots := 0, locals := 0 } : Room).cells ({ frames := 0, cells := 0, slots := 0, locals := 0 } : Room).slots) := by
  refine MetFree.of_bodySF (plainFor_of_name pn7) hisR ?_
  intro p e s m args below meth c s₁ Bd hml0 hP hK
  obtain ⟨rfl, hZ, hh⟩ := hP
  have hx := Bd.exec
  have hby := Bd.bytes
  have hml : c.maxLocals = 1 := hml0
  have hown : s.vm.findClass "inducere/OrderConstraints$Constraint" = some m.cls := findClass_of_methodNamed Bd.named
  have hnm := (name_of_methodNamed Bd.named Bd.method).1
  have X0 : Stand p l e ({ frames := 0, cells := 0, slots := 0, locals := 0 } : Room) s m #[(.ref r0)] below meth c s₁ [] 0 0 := Stand.of_body Bd
  have e0 : s₁.heap = h0 := by rw [← hh, Bd.state]; rfl
  have N0 := Fr.nil n0
  have K0 : Keep h0 h0 [] := Keep.refl h0 _
  show own_Go p e below s (Q9 Z r0 w1 w2 h0 n0) ({ frames := 0, cells := 0, slots := 0, locals := 0 } : Room).cells ({ frames := 0, cells := 0, slots := 0, locals := 0 } : Room).slots (s₁.setTop (entryFrame m #[(.ref r0)] 1))
  refine own_go (fun t k => castTop (ef_9 m r0) k) ?_
  obtain ⟨T101, X101, e101, st101⟩ := getF X0 hx hZ hown (host := "") (Or.inl (hw _ (List.mem_of_getElem? (i := 40) rfl))) Via.refl e0 F_min_r0 (g := (mkF m 1 #[.val (.ref r0)] [(.ref r0)])) rfl rfl (hb hby d9_1)
  obtain ⟨v3, hv3⟩ : ∃ z : Int32, z = (if w2 = (2147483647 : Int32) then (1 : Int32) else (0 : Int32)) := ⟨_, rfl⟩
  obtain ⟨v4, hv4⟩ : ∃ z : Int32, z = (if w1 = (0 : Int32) then v3 else (0 : Int32)) := ⟨_, rfl⟩
  obtain ⟨T108, lc108, X108, N108, e108, st108⟩ := own_mrg (n0 := n0) (h := h0) (g := (mkF m 4 #[.val (.ref r0)] [(.int w1)])) (g' := (mkF m 21 #[.val (.ref r0)] [(.int v4)])) X101 (by
    by_cases hc4_1 : w1 = (0 : Int32)
    · obtain ⟨T102, X102, e102, st102⟩ := getF X101 hx hZ hown (host := "") (Or.inl (hw _ (List.mem_of_getElem? (i := 42) rfl))) Via.refl e101 F_max_r0 (g := (mkF m 8 #[.val (.ref r0)] [(.ref r0)])) rfl rfl (hb hby d9_8)
      obtain ⟨T105, lc105, X105, N105, e105, st105⟩ := own_mrg (n0 := n0) (h := h0) (g := (mkF m 13 #[.val (.ref r0)] [(.int (2147483647 : Int32)), (.int w2)])) (g' := (mkF m 21 #[.val (.ref r0)] [(.int v3)])) X102 (by
        by_cases hc13_2 : w2 = (2147483647 : Int32)
        · have hgo103 : ∀ t, Steps p.tables e below (T102.setTop (mkF m 21 #[.val (.ref r0)] [(.int (1 : Int32))])) t → Steps p.tables e below (T102.setTop (mkF m 13 #[.val (.ref r0)] [(.int (2147483647 : Int32)), (.int w2)])) t := by
            intro t kt
            show Steps p.tables e below (T102.setTop (mkF m 13 #[.val (.ref r0)] [(.int (2147483647 : Int32)), (.int w2)])) _
            refine XS.icmpNo X102.here hx rfl (hb hby d9_13) rfl (teq hc13_2).2 ?_
            show Steps p.tables e below (T102.setTop (mkF m 16 #[.val (.ref r0)] [])) _
            refine XS.iconst X102.here hx rfl (hb hby d9_16) ?_
            show Steps p.tables e below (T102.setTop (mkF m 17 #[.val (.ref r0)] [(.int (1 : Int32))])) _
            refine XS.goto X102.here hx rfl (pc0 := 17) (pc' := 21) rfl (hb hby d9_17) (by decide) (by decide) ?_
            exact kt
          refine own_arm hgo103 ?_
          exact own_armEnd X102 N0 e102 (by rw [hv3.trans (if_pos hc13_2)])
        · have hgo104 : ∀ t, Steps p.tables e below (T102.setTop (mkF m 21 #[.val (.ref r0)] [(.int (0 : Int32))])) t → Steps p.tables e below (T102.setTop (mkF m 13 #[.val (.ref r0)] [(.int (2147483647 : Int32)), (.int w2)])) t := by
            intro t kt
            show Steps p.tables e below (T102.setTop (mkF m 13 #[.val (.ref r0)] [(.int (2147483647 : Int32)), (.int w2)])) _
            refine XS.icmpYes X102.here hx rfl (pc0 := 13) (pc' := 20) rfl (hb hby d9_13) rfl (feq hc13_2).2 (by decide) (by decide) ?_
            show Steps p.tables e below (T102.setTop (mkF m 20 #[.val (.ref r0)] [])) _
            refine XS.iconst X102.here hx rfl (hb hby d9_20) ?_
            exact kt
          refine own_arm hgo104 ?_
          exact own_armEnd X102 N0 e102 (by rw [hv3.trans (if_neg hc13_2)]))
      have hgo106 : ∀ t, Steps p.tables e below (T105.setTop (mkF m 21 #[.val (.ref r0)] [(.int v3)])) t → Steps p.tables e below (T101.setTop (mkF m 4 #[.val (.ref r0)] [(.int w1)])) t := by
        intro t kt
        show Steps p.tables e below (T101.setTop (mkF m 4 #[.val (.ref r0)] [(.int w1)])) _
        refine XS.ifNo X101.here hx rfl (hb hby d9_4) rfl ((if0 _ _).trans (teq hc4_1).2) ?_
        show Steps p.tables e below (T101.setTop (mkF m 7 #[.val (.ref r0)] [])) _
        refine XS.aloadN X101.here hx rfl (hb hby d9_7) rfl rfl ?_
        show Steps p.tables e below (T101.setTop (mkF m 8 #[.val (.ref r0)] [(.ref r0)])) _
        refine st102 _ ?_
        show Steps p.tables e below (T102.setTop (mkF m 11 #[.val (.ref r0)] [(.int w2)])) _
        refine X102.ldcInt hx hown (mvT hZ (hw _ (List.mem_of_getElem? (i := 57) rfl))) (g := (mkF m 11 #[.val (.ref r0)] [(.int w2)])) rfl (hb hby d9_11) _ ?_
        show Steps p.tables e below (T102.setTop (mkF m 13 #[.val (.ref r0)] [(.int (2147483647 : Int32)), (.int w2)])) _
        refine st105 _ ?_
        exact kt
      refine own_arm hgo106 ?_
      exact own_armEnd X105 N105 e105 (by rw [hv4.trans (if_pos hc4_1)])
    · have hgo107 : ∀ t, Steps p.tables e below (T101.setTop (mkF m 21 #[.val (.ref r0)] [(.int (0 : Int32))])) t → Steps p.tables e below (T101.setTop (mkF m 4 #[.val (.ref r0)] [(.int w1)])) t := by
        intro t kt
        show Steps p.tables e below (T101.setTop (mkF m 4 #[.val (.ref r0)] [(.int w1)])) _
        refine XS.ifYes X101.here hx rfl (pc0 := 4) (pc' := 20) rfl (hb hby d9_4) rfl ((if0 _ _).trans (feq hc4_1).2) (by decide) (by decide) ?_
        show Steps p.tables e below (T101.setTop (mkF m 20 #[.val (.ref r0)] [])) _
        refine XS.iconst X101.here hx rfl (hb hby d9_20) ?_
        exact kt
      refine own_arm hgo107 ?_
      exact own_armEnd X101 N0 e101 (by rw [hv4.trans (if_neg hc4_1)]))
  have hgo109 : ∀ t, Steps p.tables e below (T108.setTop (mkF m 21 #[.val (.ref r0)] [(.int v4)])) t → Steps p.tables e below (s₁.setTop (mkF m 0 #[.val (.ref r0)] [])) t := by
    intro t kt
    show Steps p.tables e below (s₁.setTop (mkF m 0 #[.val (.ref r0)] [])) _
    refine XS.aloadN X0.here hx rfl (hb hby d9_0) rfl rfl ?_
    show Steps p.tables e below (s₁.setTop (mkF m 1 #[.val (.ref r0)] [(.ref r0)])) _
    refine st101 _ ?_
    show Steps p.tables e below (T101.setTop (mkF m 4 #[.val (.ref r0)] [(.int w1)])) _
    refine st108 _ ?_
    exact kt
  refine own_go hgo109 ?_
  exact own_retZ X108 hx Bd.returns Bd.notSynchronized (hb hby d9_21) (by decide) (by decide) (by rw [hv4]; exact (own_ite01 (by rw [hv3]; exact (own_ite01 (Or.inr rfl) (Or.inl rfl))) (Or.inl rfl))) (by rw [e108]; exact ⟨(by subst hv4 hv3; rw [own_r9]), N108, rfl⟩)
theorem own_chr (x : Int32) : 0 ≤ (x.toUInt32.toUInt16.toUInt32.toInt32).toInt ∧ (x.toUInt32.toUInt16.toUInt32.toInt32).toInt ≤ 65535 := by
  have h : (x.toUInt32.toUInt16.toUInt32.toInt32).toInt = (x.toUInt32.toUInt16.toNat : Int) := by
    have h2 := x.toUInt32.toUInt16.toNat_lt
    show (BitVec.toInt _) = _
    rw [BitVec.toInt_eq_toNat_cond]
    show (if 2 * (x.toUInt32.toUInt16.toUInt32).toNat < 2 ^ 32 then ((x.toUInt32.toUInt16.toUInt32).toNat : Int) else _) = _
    rw [UInt16.toNat_toUInt32]
    rw [if_pos (by omega)]
  rw [h]
  have := x.toUInt32.toUInt16.toNat_lt
  omega
theorem own_ti {x : Int32} (h : x.toBitVec.toNat < 2147483648) : x.toInt = (x.toBitVec.toNat : Int) := by
  show x.toBitVec.toInt = _
  rw [BitVec.toInt_eq_toNat_cond, if_pos (by omega)]
theorem own_tn {x : Int32} (h : 0 ≤ x.toInt) : x.toInt = (x.toBitVec.toNat : Int) ∧ x.toBitVec.toNat < 2147483648 := by
  have e : x.toInt = x.toBitVec.toInt := rfl
  have c := BitVec.toInt_eq_toNat_cond x.toBitVec
  have l := x.toBitVec.isLt
  rw [e] at h ⊢
  rw [c] at h ⊢
  split at h
  · rename_i q
    rw [if_pos q]; omega
  · omega
theorem own_andn (x y : Int32) : (x &&& y).toBitVec.toNat = x.toBitVec.toNat &&& y.toBitVec.toNat := by rw [Int32.toBitVec_and, BitVec.toNat_and]
theorem own_orn (x y : Int32) : (x ||| y).toBitVec.toNat = x.toBitVec.toNat ||| y.toBitVec.toNat := by rw [Int32.toBitVec_or, BitVec.toNat_or]
theorem own_shln {x k : Int32} {n : Nat} (hk : (k.toBitVec.smod 32).toNat = n) (h : x.toBitVec.toNat * 2 ^ n < 2 ^ 32) : (x <<< k).toBitVec.toNat = x.toBitVec.toNat * 2 ^ n := by
  rw [Int32.toBitVec_shiftLeft, BitVec.shiftLeft_eq', BitVec.toNat_shiftLeft, hk, Nat.shiftLeft_eq, Nat.mod_eq_of_lt h]
theorem own_mask {x m : Int32} {k : Nat} (hm : m.toBitVec.toNat = 2 ^ k - 1) : (x &&& m).toBitVec.toNat = x.toBitVec.toNat % 2 ^ k := by
  rw [own_andn, hm, Nat.and_two_pow_sub_one_eq_mod]
theorem own_oradd {a b k : Nat} (hb : b < 2 ^ k) : (a * 2 ^ k) ||| b = a * 2 ^ k + b := by
  rw [Nat.mul_comm, ← Nat.two_pow_add_eq_or_of_lt hb]
theorem own_and31 (x : Int32) : 0 ≤ (x &&& (2147483647 : Int32)).toInt := by
  have e := own_mask (x := x) (m := 2147483647) (k := 31) rfl
  rw [own_ti (by rw [e]; omega)]; omega
theorem own_rem {x m : Int32} (hx : 0 ≤ x.toInt) (hm : 0 < m.toInt) : (x % m).toInt = x.toInt % m.toInt ∧ 0 ≤ (x % m).toInt ∧ (x % m).toInt < m.toInt := by
  have e : (x % m).toInt = x.toInt.tmod m.toInt := Int32.toInt_mod x m
  rw [Int.tmod_eq_emod_of_nonneg hx] at e
  exact ⟨e, e ▸ Int.emod_nonneg _ (by omega), e ▸ Int.emod_lt_of_pos _ hm⟩
theorem own_c8 {x v : Int32} (h : v = ((x &&& (255 : Int32)).toUInt32.toUInt16.toUInt32.toInt32)) : ¬ ((255 : Int32) < v) := by
  have e := own_mask (x := x) (m := 255) (k := 8) rfl
  have q : v.toBitVec.toNat = x.toBitVec.toNat % 256 := by
    rw [h]
    show (x &&& (255 : Int32)).toUInt32.toUInt16.toUInt32.toNat = _
    rw [UInt16.toNat_toUInt32, UInt32.toNat_toUInt16]
    show (x &&& (255 : Int32)).toBitVec.toNat % 2 ^ 16 = _
    rw [e]; omega
  rw [Int32.lt_iff_toInt_lt, own_ti (x := v) (by omega), show (255 : Int32).toInt = 255 from rfl]; omega
theorem own_al {a b : Int32} (h : 0 ≤ a.toInt) : own_r9 a b = (if (own_r8 (0 : Int32) a b) = (0 : Int32) then (0 : Int32) else (if (own_r8 (2147483647 : Int32) a b) = (0 : Int32) then (0 : Int32) else (1 : Int32))) := by
  have l1 := Int32.toInt_lt a
  have l2 := Int32.toInt_lt b
  rw [← Int32.toInt_inj]
  simp only [own_r8, own_r9, apply_ite Int32.toInt, Int32.lt_iff_toInt_lt, ← Int32.toInt_inj, Int32.reduceToInt]
  by_cases q1 : a.toInt = 0 <;> by_cases q2 : b.toInt = 2147483647 <;> simp only [q1, q2, if_true, if_false] <;> omega
theorem own_mn {p0 p2 v2 : Int32} (hv2 : v2 = (if (p2 &&& (2 : Int32)) = (0 : Int32) then (p0 &&& (2147483647 : Int32)) else (0 : Int32))) : 0 ≤ v2.toInt := by
  rw [hv2]; split
  · exact own_and31 p0
  · decide
theorem pd8 : parseMethodDescriptor "(C)Ljava/lang/String;" = some ⟨[.char], some (.object "java/lang/String")⟩ := by decide +kernel
theorem pd9 : parseMethodDescriptor "(Ljava/lang/String;IIZ)V" = some ⟨[(.object "java/lang/String"), .int, .int, .boolean], none⟩ := by decide +kernel
theorem pd10 : parseMethodDescriptor "(I)Z" = some ⟨[.int], some .boolean⟩ := by decide +kernel
theorem pd11 : parseMethodDescriptor "()Z" = some ⟨[], some .boolean⟩ := by decide +kernel
theorem ef_0 (m : MethodId) (p0 : Int32) (p1 : Int32) (p2 : Int32) (p3 : Int32) : entryFrame m #[(.int p0), (.int p1), (.int p2), (.int p3)] maxLocals = mkF m 0 #[.val (.int p0), .val (.int p1), .val (.int p2), .val (.int p3), .unset, .unset, .unset, .unset, .unset, .unset] [] := by (first | (simp [entryFrame, mkF, argsToLocals, Value.category, maxLocals]; done) | rfl)
set_option maxRecDepth 65536 in
theorem own_leaf0 {p0 p1 p2 p3 ucs v2 v4 v7 v9 v12 v13 v15 : Int32} (hv2 : v2 = (if (p2 &&& (2 : Int32)) = (0 : Int32) then (p0 &&& (2147483647 : Int32)) else (0 : Int32))) (hv4 : v4 = (if (p2 &&& (1 : Int32)) = (0 : Int32) then p1 else (2147483647 : Int32))) (hv7 : v7 = ((p3 &&& (255 : Int32)).toUInt32.toUInt16.toUInt32.toInt32)) (hv9 : v9 = (if (p2 &&& (8 : Int32)) = (0 : Int32) then (0 : Int32) else (1 : Int32))) (hv12 : v12 = (if (own_r8 (2147483647 : Int32) v2 v4) = (0 : Int32) then (0 : Int32) else (1 : Int32))) (hv13 : v13 = (if (own_r8 (0 : Int32) v2 v4) = (0 : Int32) then (0 : Int32) else v12)) (hv15 : v15 = (if (own_r9 v2 v4) = v13 then (1 : Int32) else (0 : Int32))) (hc33_5 : (p2 &&& (4 : Int32)) = (0 : Int32)) : v15 = 1 := by rw [hv15, if_pos]; rw [hv13, hv12]; exact own_al (own_mn hv2)
set_option maxRecDepth 65536 in
theorem own_leaf1 {p0 p1 p2 p3 ucs v2 v4 v17 v20 v21 v23 : Int32} (hv2 : v2 = (if (p2 &&& (2 : Int32)) = (0 : Int32) then (p0 &&& (2147483647 : Int32)) else (0 : Int32))) (hv4 : v4 = (if (p2 &&& (1 : Int32)) = (0 : Int32) then p1 else (2147483647 : Int32))) (hv17 : v17 = (if (p2 &&& (8 : Int32)) = (0 : Int32) then (0 : Int32) else (1 : Int32))) (hv20 : v20 = (if (own_r8 (2147483647 : Int32) v2 v4) = (0 : Int32) then (0 : Int32) else (1 : Int32))) (hv21 : v21 = (if (own_r8 (0 : Int32) v2 v4) = (0 : Int32) then (0 : Int32) else v20)) (hv23 : v23 = (if (own_r9 v2 v4) = v21 then (1 : Int32) else (0 : Int32))) (hc33_5 : ¬ ((p2 &&& (4 : Int32)) = (0 : Int32))) : v23 = 1 := by rw [hv23, if_pos]; rw [hv21, hv20]; exact own_al (own_mn hv2)
theorem pn12 : plainName "inducere/ConstraintAllowsAllPinLaw" = true := by first | (simp [plainName, overriddenIn]; done) | decide +kernel
def Q0 (Z : State) (p0 : Int32) (p1 : Int32) (p2 : Int32) (p3 : Int32) (ucs : Int32) (h0 : Heap) (n0 : Nat) (v : Option Value) (h : Heap) (L : List Loc) : Prop := v = some (.int 1) ∧ Fr n0 L
set_option maxRecDepth 65536 in
set_option maxHeartbeats 40000000 in
theorem rm0 (l : Launch) (Z : State) (a0 : Array Value) (hw : ∀ d ∈ tables_1, d.before a0 Z = true) (ws : List Jvm.Cond) (p0 : Int32) (p1 : Int32) (p2 : Int32) (p3 : Int32) (ucs : Int32) (h0 : Heap) (n0 : Nat) (Z0 : n0 ≤ h0.size) (S_cs : Sta Z h0 "java/lang/String" "COMPACT_STRINGS" "Z" (.int ucs)) (hcs : ¬ (ucs = (0 : Int32))) :
    MetFree l x (head1 (Jvm.Cond.code x code maxLocals ret :: ws) room_1) (fun a U => a = #[(.int p0), (.int p1), (.int p2), (.int p3)] ∧ Z.Warmed39 U.vm ∧ U.heap = h0) (fun _ _ _ _ _ => True) (fun _ U o U' => ∃ v L, o = .returned v ∧ Q0 Z p0 p1 p2 p3 ucs h0 n0 v U'.heap L ∧ FrameEnd U o U' L room_1.cells room_1.slots) := by
  refine MetFree.of_bodySF (plainFor_of_name pn12) hisR ?_
  intro p e s m args below meth c s₁ Bd hml0 hP hK
  obtain ⟨rfl, hZ, hh⟩ := hP
  have hx := Bd.exec
  have hby := Bd.bytes
  have hml : c.maxLocals = 10 := hml0
  have hown : s.vm.findClass "inducere/ConstraintAllowsAllPinLaw" = some m.cls := findClass_of_methodNamed Bd.named
  have hnm := (name_of_methodNamed Bd.named Bd.method).1
  have X0 : Stand p l e room_1 s m #[(.int p0), (.int p1), (.int p2), (.int p3)] below meth c s₁ [] 0 0 := Stand.of_body Bd
  have e0 : s₁.heap = h0 := by rw [← hh, Bd.state]; rfl
  have N0 := Fr.nil n0
  have K0 : Keep h0 h0 [] := Keep.refl h0 _
  show own_Go p e below s (Q0 Z p0 p1 p2 p3 ucs h0 n0) room_1.cells room_1.slots (s₁.setTop (entryFrame m #[(.int p0), (.int p1), (.int p2), (.int p3)] maxLocals))
  refine own_go (fun t k => castTop (ef_0 m p0 p1 p2 p3) k) ?_
  obtain ⟨v2, hv2⟩ : ∃ z : Int32, z = (if (p2 &&& (2 : Int32)) = (0 : Int32) then (p0 &&& (2147483647 : Int32)) else (0 : Int32)) := ⟨_, rfl⟩
  obtain ⟨T103, lc103, X103, N103, e103, st103⟩ := own_mrg (n0 := n0) (h := h0) (g := (mkF m 3 #[.val (.int p0), .val (.int p1), .val (.int p2), .val (.int p3), .unset, .unset, .unset, .unset, .unset, .unset] [(.int (p2 &&& (2 : Int32)))])) (g' := (mkF m 14 #[.val (.int p0), .val (.int p1), .val (.int p2), .val (.int p3), .unset, .unset, .unset, .unset, .unset, .unset] [(.int v2)])) X0 (by
    by_cases hc3_1 : (p2 &&& (2 : Int32)) = (0 : Int32)
    · have hgo101 : ∀ t, Steps p.tables e below (s₁.setTop (mkF m 14 #[.val (.int p0), .val (.int p1), .val (.int p2), .val (.int p3), .unset, .unset, .unset, .unset, .unset, .unset] [(.int (p0 &&& (2147483647 : Int32)))])) t → Steps p.tables e below (s₁.setTop (mkF m 3 #[.val (.int p0), .val (.int p1), .val (.int p2), .val (.int p3), .unset, .unset, .unset, .unset, .unset, .unset] [(.int (p2 &&& (2 : Int32)))])) t := by
        intro t kt
        show Steps p.tables e below (s₁.setTop (mkF m 3 #[.val (.int p0), .val (.int p1), .val (.int p2), .val (.int p3), .unset, .unset, .unset, .unset, .unset, .unset] [(.int (p2 &&& (2 : Int32)))])) _
        refine XS.ifYes X0.here hx rfl (pc0 := 3) (pc' := 10) rfl (hb hby at_3) rfl ((if0 _ _).trans (teq hc3_1).1) (by decide) (by decide) ?_
        show Steps p.tables e below (s₁.setTop (mkF m 10 #[.val (.int p0), .val (.int p1), .val (.int p2), .val (.int p3), .unset, .unset, .unset, .unset, .unset, .unset] [])) _
        refine XS.iloadN X0.here hx rfl (hb hby at_10) rfl ?_
        show Steps p.tables e below (s₁.setTop (mkF m 11 #[.val (.int p0), .val (.int p1), .val (.int p2), .val (.int p3), .unset, .unset, .unset, .unset, .unset, .unset] [(.int p0)])) _
        refine X0.ldcInt hx hown (mvT hZ (hw _ (List.mem_of_getElem? (i := 51) rfl))) (g := (mkF m 11 #[.val (.int p0), .val (.int p1), .val (.int p2), .val (.int p3), .unset, .unset, .unset, .unset, .unset, .unset] [(.int p0)])) rfl (hb hby at_11) _ ?_
        show Steps p.tables e below (s₁.setTop (mkF m 13 #[.val (.int p0), .val (.int p1), .val (.int p2), .val (.int p3), .unset, .unset, .unset, .unset, .unset, .unset] [(.int (2147483647 : Int32)), (.int p0)])) _
        refine XS.iand X0.here hx rfl (hb hby at_13) rfl ?_
        exact kt
      refine own_arm hgo101 ?_
      exact own_armEnd X0 N0 e0 (by rw [hv2.trans (if_pos hc3_1)])
    · have hgo102 : ∀ t, Steps p.tables e below (s₁.setTop (mkF m 14 #[.val (.int p0), .val (.int p1), .val (.int p2), .val (.int p3), .unset, .unset, .unset, .unset, .unset, .unset] [(.int (0 : Int32))])) t → Steps p.tables e below (s₁.setTop (mkF m 3 #[.val (.int p0), .val (.int p1), .val (.int p2), .val (.int p3), .unset, .unset, .unset, .unset, .unset, .unset] [(.int (p2 &&& (2 : Int32)))])) t := by
        intro t kt
        show Steps p.tables e below (s₁.setTop (mkF m 3 #[.val (.int p0), .val (.int p1), .val (.int p2), .val (.int p3), .unset, .unset, .unset, .unset, .unset, .unset] [(.int (p2 &&& (2 : Int32)))])) _
        refine XS.ifNo X0.here hx rfl (hb hby at_3) rfl ((if0 _ _).trans (feq hc3_1).1) ?_
        show Steps p.tables e below (s₁.setTop (mkF m 6 #[.val (.int p0), .val (.int p1), .val (.int p2), .val (.int p3), .unset, .unset, .unset, .unset, .unset, .unset] [])) _
        refine XS.iconst X0.here hx rfl (hb hby at_6) ?_
        show Steps p.tables e below (s₁.setTop (mkF m 7 #[.val (.int p0), .val (.int p1), .val (.int p2), .val (.int p3), .unset, .unset, .unset, .unset, .unset, .unset] [(.int (0 : Int32))])) _
        refine XS.goto X0.here hx rfl (pc0 := 7) (pc' := 14) rfl (hb hby at_7) (by decide) (by decide) ?_
        exact kt
      refine own_arm hgo102 ?_
      exact own_armEnd X0 N0 e0 (by rw [hv2.trans (if_neg hc3_1)]))
  obtain ⟨v4, hv4⟩ : ∃ z : Int32, z = (if (p2 &&& (1 : Int32)) = (0 : Int32) then p1 else (2147483647 : Int32)) := ⟨_, rfl⟩
  obtain ⟨T106, lc106, X106, N106, e106, st106⟩ := own_mrg (n0 := n0) (h := h0) (g := (mkF m 19 #[.val (.int p0), .val (.int p1), .val (.int p2), .val (.int p3), .val (.int v2), .unset, .unset, .unset, .unset, .unset] [(.int (p2 &&& (1 : Int32)))])) (g' := (mkF m 28 #[.val (.int p0), .val (.int p1), .val (.int p2), .val (.int p3), .val (.int v2), .unset, .unset, .unset, .unset, .unset] [(.int v4)])) X103 (by
    by_cases hc19_3 : (p2 &&& (1 : Int32)) = (0 : Int32)
    · have hgo104 : ∀ t, Steps p.tables e below (T103.setTop (mkF m 28 #[.val (.int p0), .val (.int p1), .val (.int p2), .val (.int p3), .val (.int v2), .unset, .unset, .unset, .unset, .unset] [(.int p1)])) t → Steps p.tables e below (T103.setTop (mkF m 19 #[.val (.int p0), .val (.int p1), .val (.int p2), .val (.int p3), .val (.int v2), .unset, .unset, .unset, .unset, .unset] [(.int (p2 &&& (1 : Int32)))])) t := by
        intro t kt
        show Steps p.tables e below (T103.setTop (mkF m 19 #[.val (.int p0), .val (.int p1), .val (.int p2), .val (.int p3), .val (.int v2), .unset, .unset, .unset, .unset, .unset] [(.int (p2 &&& (1 : Int32)))])) _
        refine XS.ifYes X103.here hx rfl (pc0 := 19) (pc' := 27) rfl (hb hby at_19) rfl ((if0 _ _).trans (teq hc19_3).1) (by decide) (by decide) ?_
        show Steps p.tables e below (T103.setTop (mkF m 27 #[.val (.int p0), .val (.int p1), .val (.int p2), .val (.int p3), .val (.int v2), .unset, .unset, .unset, .unset, .unset] [])) _
        refine XS.iloadN X103.here hx rfl (hb hby at_27) rfl ?_
        exact kt
      refine own_arm hgo104 ?_
      exact own_armEnd X103 N103 e103 (by rw [hv4.trans (if_pos hc19_3)])
    · have hgo105 : ∀ t, Steps p.tables e below (T103.setTop (mkF m 28 #[.val (.int p0), .val (.int p1), .val (.int p2), .val (.int p3), .val (.int v2), .unset, .unset, .unset, .unset, .unset] [(.int (2147483647 : Int32))])) t → Steps p.tables e below (T103.setTop (mkF m 19 #[.val (.int p0), .val (.int p1), .val (.int p2), .val (.int p3), .val (.int v2), .unset, .unset, .unset, .unset, .unset] [(.int (p2 &&& (1 : Int32)))])) t := by
        intro t kt
        show Steps p.tables e below (T103.setTop (mkF m 19 #[.val (.int p0), .val (.int p1), .val (.int p2), .val (.int p3), .val (.int v2), .unset, .unset, .unset, .unset, .unset] [(.int (p2 &&& (1 : Int32)))])) _
        refine XS.ifNo X103.here hx rfl (hb hby at_19) rfl ((if0 _ _).trans (feq hc19_3).1) ?_
        show Steps p.tables e below (T103.setTop (mkF m 22 #[.val (.int p0), .val (.int p1), .val (.int p2), .val (.int p3), .val (.int v2), .unset, .unset, .unset, .unset, .unset] [])) _
        refine X103.ldcInt hx hown (mvT hZ (hw _ (List.mem_of_getElem? (i := 51) rfl))) (g := (mkF m 22 #[.val (.int p0), .val (.int p1), .val (.int p2), .val (.int p3), .val (.int v2), .unset, .unset, .unset, .unset, .unset] [])) rfl (hb hby at_22) _ ?_
        show Steps p.tables e below (T103.setTop (mkF m 24 #[.val (.int p0), .val (.int p1), .val (.int p2), .val (.int p3), .val (.int v2), .unset, .unset, .unset, .unset, .unset] [(.int (2147483647 : Int32))])) _
        refine XS.goto X103.here hx rfl (pc0 := 24) (pc' := 28) rfl (hb hby at_24) (by decide) (by decide) ?_
        exact kt
      refine own_arm hgo105 ?_
      exact own_armEnd X103 N103 e103 (by rw [hv4.trans (if_neg hc19_3)]))
  have hgo108 : ∀ t, Steps p.tables e below (T106.setTop (mkF m 33 #[.val (.int p0), .val (.int p1), .val (.int p2), .val (.int p3), .val (.int v2), .val (.int v4), .unset, .unset, .unset, .unset] [(.int (p2 &&& (4 : Int32)))])) t → Steps p.tables e below (s₁.setTop (mkF m 0 #[.val (.int p0), .val (.int p1), .val (.int p2), .val (.int p3), .unset, .unset, .unset, .unset, .unset, .unset] [])) t := by
    intro t kt
    show Steps p.tables e below (s₁.setTop (mkF m 0 #[.val (.int p0), .val (.int p1), .val (.int p2), .val (.int p3), .unset, .unset, .unset, .unset, .unset, .unset] [])) _
    refine XS.iloadN X0.here hx rfl (hb hby at_0) rfl ?_
    show Steps p.tables e below (s₁.setTop (mkF m 1 #[.val (.int p0), .val (.int p1), .val (.int p2), .val (.int p3), .unset, .unset, .unset, .unset, .unset, .unset] [(.int p2)])) _
    refine XS.iconst X0.here hx rfl (hb hby at_1) ?_
    show Steps p.tables e below (s₁.setTop (mkF m 2 #[.val (.int p0), .val (.int p1), .val (.int p2), .val (.int p3), .unset, .unset, .unset, .unset, .unset, .unset] [(.int (2 : Int32)), (.int p2)])) _
    refine XS.iand X0.here hx rfl (hb hby at_2) rfl ?_
    show Steps p.tables e below (s₁.setTop (mkF m 3 #[.val (.int p0), .val (.int p1), .val (.int p2), .val (.int p3), .unset, .unset, .unset, .unset, .unset, .unset] [(.int (p2 &&& (2 : Int32)))])) _
    refine st103 _ ?_
    show Steps p.tables e below (T103.setTop (mkF m 14 #[.val (.int p0), .val (.int p1), .val (.int p2), .val (.int p3), .unset, .unset, .unset, .unset, .unset, .unset] [(.int v2)])) _
    refine XS.istore X103.here hx rfl (hb hby at_14) rfl (l' := #[.val (.int p0), .val (.int p1), .val (.int p2), .val (.int p3), .val (.int v2), .unset, .unset, .unset, .unset, .unset]) rfl ?_
    show Steps p.tables e below (T103.setTop (mkF m 16 #[.val (.int p0), .val (.int p1), .val (.int p2), .val (.int p3), .val (.int v2), .unset, .unset, .unset, .unset, .unset] [])) _
    refine XS.iloadN X103.here hx rfl (hb hby at_16) rfl ?_
    show Steps p.tables e below (T103.setTop (mkF m 17 #[.val (.int p0), .val (.int p1), .val (.int p2), .val (.int p3), .val (.int v2), .unset, .unset, .unset, .unset, .unset] [(.int p2)])) _
    refine XS.iconst X103.here hx rfl (hb hby at_17) ?_
    show Steps p.tables e below (T103.setTop (mkF m 18 #[.val (.int p0), .val (.int p1), .val (.int p2), .val (.int p3), .val (.int v2), .unset, .unset, .unset, .unset, .unset] [(.int (1 : Int32)), (.int p2)])) _
    refine XS.iand X103.here hx rfl (hb hby at_18) rfl ?_
    show Steps p.tables e below (T103.setTop (mkF m 19 #[.val (.int p0), .val (.int p1), .val (.int p2), .val (.int p3), .val (.int v2), .unset, .unset, .unset, .unset, .unset] [(.int (p2 &&& (1 : Int32)))])) _
    refine st106 _ ?_
    show Steps p.tables e below (T106.setTop (mkF m 28 #[.val (.int p0), .val (.int p1), .val (.int p2), .val (.int p3), .val (.int v2), .unset, .unset, .unset, .unset, .unset] [(.int v4)])) _
    refine XS.istore X106.here hx rfl (hb hby at_28) rfl (l' := #[.val (.int p0), .val (.int p1), .val (.int p2), .val (.int p3), .val (.int v2), .val (.int v4), .unset, .unset, .unset, .unset]) rfl ?_
    show Steps p.tables e below (T106.setTop (mkF m 30 #[.val (.int p0), .val (.int p1), .val (.int p2), .val (.int p3), .val (.int v2), .val (.int v4), .unset, .unset, .unset, .unset] [])) _
    refine XS.iloadN X106.here hx rfl (hb hby at_30) rfl ?_
    show Steps p.tables e below (T106.setTop (mkF m 31 #[.val (.int p0), .val (.int p1), .val (.int p2), .val (.int p3), .val (.int v2), .val (.int v4), .unset, .unset, .unset, .unset] [(.int p2)])) _
    refine XS.iconst X106.here hx rfl (hb hby at_31) ?_
    show Steps p.tables e below (T106.setTop (mkF m 32 #[.val (.int p0), .val (.int p1), .val (.int p2), .val (.int p3), .val (.int v2), .val (.int v4), .unset, .unset, .unset, .unset] [(.int (4 : Int32)), (.int p2)])) _
    refine XS.iand X106.here hx rfl (hb hby at_32) rfl ?_
    exact kt
  refine own_go hgo108 ?_
  by_cases hc33_5 : (p2 &&& (4 : Int32)) = (0 : Int32)
  · obtain ⟨v7, hv7⟩ : ∃ z : Int32, z = ((p3 &&& (255 : Int32)).toUInt32.toUInt16.toUInt32.toInt32) := ⟨_, rfl⟩
    obtain ⟨_, _, ⟨T109, L109, k109, n109⟩, -, X109, ⟨Lc109, hQ109, l109, y109, z109⟩, st109⟩ := Jvm.LawKit.callS X106 hx (y := (⟨"java/lang/String", "valueOf", "(C)Ljava/lang/String;"⟩ : MethodName)) hown (mvT hZ (hw _ (List.mem_of_getElem? (i := 0) rfl))) (mvT hZ (hw _ (List.mem_of_getElem? (i := 1) rfl))) (mvT hZ (hw _ (List.mem_of_getElem? (i := 2) rfl))) (mvT hZ (hw _ (List.mem_of_getElem? (i := 3) rfl))) (by decide) (backOf (W := 0) (rm1 l Z a0 hw [] v7 ucs h0 n0 Z0 S_cs (hcs : ¬ (ucs = (0 : Int32))) (own_c8 hv7 : ¬ ((255 : Int32) < v7))) hZ (hw _ (List.mem_of_getElem? (i := 3) rfl)) (hw _ (List.mem_of_getElem? (i := 2) rfl)) (by decide) (by decide)) (g := (mkF m 46 #[.val (.int p0), .val (.int p1), .val (.int p2), .val (.int p3), .val (.int v2), .val (.int v4), .unset, .unset, .unset, .unset] [(.int v7)])) rfl (by rw [hml]; rfl) (argsL := [(.int v7)]) (rest := []) (lenOf pd8 rfl) rfl (by show 2 * 0 + _ ≤ _; exact Nat.le_of_eq rfl) (hb hby at_46) (fun _ _ => ⟨rfl, e106, (by decide : 0 + 2 ≤ _), (by decide : 0 + 5 ≤ _)⟩)
    dsimp only [Pt.U, Pt.locs, Pt.cells, Pt.slots] at X109 l109 y109 z109 st109 hQ109
    subst l109 y109 z109
    obtain ⟨b109_0, rfl, N109q, K109q, F109_0, F109_1, F109_2⟩ := hQ109
    have F110 := own_staKeep S_cs K109q all0
    have Z111 : n0 ≤ T109.heap.size := Nat.le_trans Z0 K109q.1
    have K112 : Keep h0 T109.heap [] := K0.trans K109q all0
    have g_b109_0 : n0 ≤ b109_0 := Nat.le_trans Z0 F109_0
    have sz_b109_0 : h0.size ≤ b109_0 := Nat.le_trans K0.1 F109_0
    have N109 := Fr.app N106 N109q
    obtain ⟨v9, hv9⟩ : ∃ z : Int32, z = (if (p2 &&& (8 : Int32)) = (0 : Int32) then (0 : Int32) else (1 : Int32)) := ⟨_, rfl⟩
    obtain ⟨T115, lc115, X115, N115, e115, st115⟩ := own_mrg (n0 := n0) (h := T109.heap) (g := (mkF m 55 #[.val (.int p0), .val (.int p1), .val (.int p2), .val (.int p3), .val (.int v2), .val (.int v4), .val (.ref b109_0), .unset, .unset, .unset] [(.int (p2 &&& (8 : Int32)))])) (g' := (mkF m 63 #[.val (.int p0), .val (.int p1), .val (.int p2), .val (.int p3), .val (.int v2), .val (.int v4), .val (.ref b109_0), .unset, .unset, .unset] [(.int v9)])) X109 (by
      by_cases hc55_8 : (p2 &&& (8 : Int32)) = (0 : Int32)
      · have hgo113 : ∀ t, Steps p.tables e below (T109.setTop (mkF m 63 #[.val (.int p0), .val (.int p1), .val (.int p2), .val (.int p3), .val (.int v2), .val (.int v4), .val (.ref b109_0), .unset, .unset, .unset] [(.int (0 : Int32))])) t → Steps p.tables e below (T109.setTop (mkF m 55 #[.val (.int p0), .val (.int p1), .val (.int p2), .val (.int p3), .val (.int v2), .val (.int v4), .val (.ref b109_0), .unset, .unset, .unset] [(.int (p2 &&& (8 : Int32)))])) t := by
          intro t kt
          show Steps p.tables e below (T109.setTop (mkF m 55 #[.val (.int p0), .val (.int p1), .val (.int p2), .val (.int p3), .val (.int v2), .val (.int v4), .val (.ref b109_0), .unset, .unset, .unset] [(.int (p2 &&& (8 : Int32)))])) _
          refine XS.ifYes X109.here hx rfl (pc0 := 55) (pc' := 62) rfl (hb hby at_55) rfl ((if0 _ _).trans (teq hc55_8).1) (by decide) (by decide) ?_
          show Steps p.tables e below (T109.setTop (mkF m 62 #[.val (.int p0), .val (.int p1), .val (.int p2), .val (.int p3), .val (.int v2), .val (.int v4), .val (.ref b109_0), .unset, .unset, .unset] [])) _
          refine XS.iconst X109.here hx rfl (hb hby at_62) ?_
          exact kt
        refine own_arm hgo113 ?_
        exact own_armEnd X109 N109 (rfl : T109.heap = T109.heap) (by rw [hv9.trans (if_pos hc55_8)])
      · have hgo114 : ∀ t, Steps p.tables e below (T109.setTop (mkF m 63 #[.val (.int p0), .val (.int p1), .val (.int p2), .val (.int p3), .val (.int v2), .val (.int v4), .val (.ref b109_0), .unset, .unset, .unset] [(.int (1 : Int32))])) t → Steps p.tables e below (T109.setTop (mkF m 55 #[.val (.int p0), .val (.int p1), .val (.int p2), .val (.int p3), .val (.int v2), .val (.int v4), .val (.ref b109_0), .unset, .unset, .unset] [(.int (p2 &&& (8 : Int32)))])) t := by
          intro t kt
          show Steps p.tables e below (T109.setTop (mkF m 55 #[.val (.int p0), .val (.int p1), .val (.int p2), .val (.int p3), .val (.int v2), .val (.int v4), .val (.ref b109_0), .unset, .unset, .unset] [(.int (p2 &&& (8 : Int32)))])) _
          refine XS.ifNo X109.here hx rfl (hb hby at_55) rfl ((if0 _ _).trans (feq hc55_8).1) ?_
          show Steps p.tables e below (T109.setTop (mkF m 58 #[.val (.int p0), .val (.int p1), .val (.int p2), .val (.int p3), .val (.int v2), .val (.int v4), .val (.ref b109_0), .unset, .unset, .unset] [])) _
          refine XS.iconst X109.here hx rfl (hb hby at_58) ?_
          show Steps p.tables e below (T109.setTop (mkF m 59 #[.val (.int p0), .val (.int p1), .val (.int p2), .val (.int p3), .val (.int v2), .val (.int v4), .val (.ref b109_0), .unset, .unset, .unset] [(.int (1 : Int32))])) _
          refine XS.goto X109.here hx rfl (pc0 := 59) (pc' := 63) rfl (hb hby at_59) (by decide) (by decide) ?_
          exact kt
        refine own_arm hgo114 ?_
        exact own_armEnd X109 N109 (rfl : T109.heap = T109.heap) (by rw [hv9.trans (if_neg hc55_8)]))
    obtain ⟨T116, h116, X116, e116, E116, A116, D116, -, st116⟩ := newO X115 hx hZ hown (hw _ (List.mem_of_getElem? (i := 26) rfl)) (hw _ (List.mem_of_getElem? (i := 27) rfl)) (hw _ (List.mem_of_getElem? (i := 28) rfl)) e115 (g := (mkF m 65 #[.val (.int p0), .val (.int p1), .val (.int p2), .val (.int p3), .val (.int v2), .val (.int v4), .val (.ref b109_0), .val (.int v9), .unset, .unset] [])) rfl (hb hby at_65) (by decide) (by decide)
    obtain ⟨b116, g116⟩ : ∃ z, z = T109.heap.size := ⟨_, rfl⟩
    rw [← g116] at A116 D116 st116
    have ne_b109_0_b116 : b109_0 ≠ b116 := Nat.ne_of_lt (Nat.lt_of_lt_of_le F109_1.lt (Nat.le_of_eq g116.symm))
    have g_b116 : n0 ≤ b116 := Nat.le_trans Z111 (Nat.le_of_eq g116.symm)
    have sz_b116 : h0.size ≤ b116 := Nat.le_trans K112.1 (Nat.le_of_eq g116.symm)
    have F117 := F110.ext E116
    have F118 := F109_1.ext E116
    have F119 := F109_2.ext E116
    have Z120 : n0 ≤ h116.size := Nat.le_trans Z111 E116.1
    have K121 : Keep h0 h116 [] := K112.ext E116
    have F122 : Fld Z h116 b116 "inducere/OrderConstraints$Constraint" "relation" "Ljava/lang/String;" .null := D116 (Or.inr (hw _ (List.mem_of_getElem? (i := 39) rfl))) (ty := (.object "java/lang/String")) (by decide)
    have F123 : Fld Z h116 b116 "inducere/OrderConstraints$Constraint" "min" "I" (.int (0 : Int32)) := D116 (Or.inr (hw _ (List.mem_of_getElem? (i := 41) rfl))) (ty := .int) (by decide)
    have F124 : Fld Z h116 b116 "inducere/OrderConstraints$Constraint" "max" "I" (.int (0 : Int32)) := D116 (Or.inr (hw _ (List.mem_of_getElem? (i := 43) rfl))) (ty := .int) (by decide)
    have F125 : Fld Z h116 b116 "inducere/OrderConstraints$Constraint" "bounded" "Z" (.int (0 : Int32)) := D116 (Or.inr (hw _ (List.mem_of_getElem? (i := 45) rfl))) (ty := .boolean) (by decide)
    obtain ⟨_, _, ⟨T126, L126, k126, n126⟩, -, X126, ⟨Lc126, hQ126, l126, y126, z126⟩, st126⟩ := X116.specialBack hx (y := (⟨"inducere/OrderConstraints$Constraint", "<init>", "(Ljava/lang/String;IIZ)V"⟩ : MethodName)) rfl hown (mvT hZ (hw _ (List.mem_of_getElem? (i := 29) rfl))) (mvT hZ (hw _ (List.mem_of_getElem? (i := 30) rfl))) (mvT hZ (hw _ (List.mem_of_getElem? (i := 31) rfl))) (by decide) (backOf (W := 1) (rm6r l Z a0 hw [] b116 b109_0 v2 v4 v9 .null (0 : Int32) (0 : Int32) (0 : Int32) h116 n0 Z120 A116 F122 F123 F124 F125 g_b116) hZ (hw _ (List.mem_of_getElem? (i := 31) rfl)) (hw _ (List.mem_of_getElem? (i := 28) rfl)) (by decide) (by decide)) (g := (mkF m 77 #[.val (.int p0), .val (.int p1), .val (.int p2), .val (.int p3), .val (.int v2), .val (.int v4), .val (.ref b109_0), .val (.int v9), .unset, .unset] [(.int v9), (.int v4), (.int v2), (.ref b109_0), (.ref b116), (.ref b116)])) rfl (by rw [hml]; rfl) (Steps.refl _) (a := b116) (argsL := [(.ref b109_0), (.int v2), (.int v4), (.int v9)]) (rest := [(.ref b116)]) (lenOf pd9 rfl) rfl (by show 2 * 0 + _ ≤ _; exact Nat.le_of_eq rfl) (hb hby at_77) (fun _ _ => ⟨rfl, e116, (by decide : 3 + 0 ≤ _), (by decide : 9 + 0 ≤ _)⟩)
    dsimp only [Pt.U, Pt.locs, Pt.cells, Pt.slots] at X126 l126 y126 z126 st126 hQ126
    subst l126 y126 z126
    obtain ⟨rfl, N126q, K126q, F126_0, F126_1, F126_2, F126_3, F126_4⟩ := hQ126
    have F127 := own_staKeep F117 K126q (allS (own_plainE A116) all0)
    have F128 := F118.keep K126q
    have F129 := F119.keep K126q (ninS ne_b109_0_b116 nin0)
    have F130 := A116.keep K126q
    have Z131 : n0 ≤ T126.heap.size := Nat.le_trans Z120 K126q.1
    have K132 : Keep h0 T126.heap [] := K121.trans K126q (allS (Or.inr sz_b116) all0)
    have N126 := Fr.app N115 N126q
    obtain ⟨cq133, kq133, q133a, q133b, q133c⟩ := isOf hZ (rfl : T126.heap = T126.heap) F126_0
    obtain ⟨_, _, ⟨T133, L133, k133, n133⟩, -, X133, ⟨Lc133, hQ133, l133, y133, z133⟩, st133⟩ := X126.virtualBack hx (y := (⟨"inducere/OrderConstraints$Constraint", "holds", "(I)Z"⟩ : MethodName)) (z := (⟨"inducere/OrderConstraints$Constraint", "holds", "(I)Z"⟩ : MethodName)) hown (mvT hZ (hw _ (List.mem_of_getElem? (i := 46) rfl))) (mvT hZ (hw _ (List.mem_of_getElem? (i := 47) rfl))) (notFace_of_selects (args := #[]) (mvT hZ (hw _ (List.mem_of_getElem? (i := 49) rfl)))) (mvT hZ (hw _ (List.mem_of_getElem? (i := 49) rfl))) (mvT hZ (hw _ (List.mem_of_getElem? (i := 48) rfl))) (by decide) (backOf (W := 0) (rm8 l Z a0 hw [] b116 (0 : Int32) v2 v4 (T126.heap) n0 Z131 F126_2 F126_3) hZ (hw _ (List.mem_of_getElem? (i := 50) rfl)) (hw _ (List.mem_of_getElem? (i := 28) rfl)) (by decide) (by decide)) q133a q133c (g := (mkF m 85 #[.val (.int p0), .val (.int p1), .val (.int p2), .val (.int p3), .val (.int v2), .val (.int v4), .val (.ref b109_0), .val (.int v9), .val (.ref b116), .unset] [(.int (0 : Int32)), (.ref b116)])) rfl (by rw [hml]; rfl) (Steps.refl _) (argsL := [(.int (0 : Int32))]) (rest := []) (lenOf pd10 rfl) rfl (by show 2 * 0 + _ ≤ _; exact Nat.le_of_eq rfl) (hb hby at_85) (fun _ _ => ⟨rfl, (rfl : T126.heap = T126.heap), (by decide : 3 + 0 ≤ _), (by decide : 9 + 0 ≤ _)⟩)
    dsimp only [Pt.U, Pt.locs, Pt.cells, Pt.slots] at X133 l133 y133 z133 st133 hQ133
    subst l133 y133 z133
    obtain ⟨rfl, N133q, e133⟩ := hQ133
    have N133 := Fr.app N126 N133q
    obtain ⟨v12, hv12⟩ : ∃ z : Int32, z = (if (own_r8 (2147483647 : Int32) v2 v4) = (0 : Int32) then (0 : Int32) else (1 : Int32)) := ⟨_, rfl⟩
    obtain ⟨v13, hv13⟩ : ∃ z : Int32, z = (if (own_r8 (0 : Int32) v2 v4) = (0 : Int32) then (0 : Int32) else v12) := ⟨_, rfl⟩
    obtain ⟨T140, lc140, X140, N140, e140, st140⟩ := own_mrg (n0 := n0) (h := T126.heap) (g := (mkF m 88 #[.val (.int p0), .val (.int p1), .val (.int p2), .val (.int p3), .val (.int v2), .val (.int v4), .val (.ref b109_0), .val (.int v9), .val (.ref b116), .unset] [(.int (own_r8 (0 : Int32) v2 v4))])) (g' := (mkF m 106 #[.val (.int p0), .val (.int p1), .val (.int p2), .val (.int p3), .val (.int v2), .val (.int v4), .val (.ref b109_0), .val (.int v9), .val (.ref b116), .unset] [(.int v13)])) X133 (by
      by_cases hc88_10 : (own_r8 (0 : Int32) v2 v4) = (0 : Int32)
      · have hgo134 : ∀ t, Steps p.tables e below (T133.setTop (mkF m 106 #[.val (.int p0), .val (.int p1), .val (.int p2), .val (.int p3), .val (.int v2), .val (.int v4), .val (.ref b109_0), .val (.int v9), .val (.ref b116), .unset] [(.int (0 : Int32))])) t → Steps p.tables e below (T133.setTop (mkF m 88 #[.val (.int p0), .val (.int p1), .val (.int p2), .val (.int p3), .val (.int v2), .val (.int v4), .val (.ref b109_0), .val (.int v9), .val (.ref b116), .unset] [(.int (own_r8 (0 : Int32) v2 v4))])) t := by
          intro t kt
          show Steps p.tables e below (T133.setTop (mkF m 88 #[.val (.int p0), .val (.int p1), .val (.int p2), .val (.int p3), .val (.int v2), .val (.int v4), .val (.ref b109_0), .val (.int v9), .val (.ref b116), .unset] [(.int (own_r8 (0 : Int32) v2 v4))])) _
          refine XS.ifYes X133.here hx rfl (pc0 := 88) (pc' := 105) rfl (hb hby at_88) rfl ((if0 _ _).trans (teq hc88_10).1) (by decide) (by decide) ?_
          show Steps p.tables e below (T133.setTop (mkF m 105 #[.val (.int p0), .val (.int p1), .val (.int p2), .val (.int p3), .val (.int v2), .val (.int v4), .val (.ref b109_0), .val (.int v9), .val (.ref b116), .unset] [])) _
          refine XS.iconst X133.here hx rfl (hb hby at_105) ?_
          exact kt
        refine own_arm hgo134 ?_
        exact own_armEnd X133 N133 e133 (by rw [hv13.trans (if_pos hc88_10)])
      · obtain ⟨cq135, kq135, q135a, q135b, q135c⟩ := isOf hZ e133 F126_0
        obtain ⟨_, _, ⟨T135, L135, k135, n135⟩, -, X135, ⟨Lc135, hQ135, l135, y135, z135⟩, st135⟩ := X133.virtualBack hx (y := (⟨"inducere/OrderConstraints$Constraint", "holds", "(I)Z"⟩ : MethodName)) (z := (⟨"inducere/OrderConstraints$Constraint", "holds", "(I)Z"⟩ : MethodName)) hown (mvT hZ (hw _ (List.mem_of_getElem? (i := 46) rfl))) (mvT hZ (hw _ (List.mem_of_getElem? (i := 47) rfl))) (notFace_of_selects (args := #[]) (mvT hZ (hw _ (List.mem_of_getElem? (i := 49) rfl)))) (mvT hZ (hw _ (List.mem_of_getElem? (i := 49) rfl))) (mvT hZ (hw _ (List.mem_of_getElem? (i := 48) rfl))) (by decide) (backOf (W := 0) (rm8 l Z a0 hw [] b116 (2147483647 : Int32) v2 v4 (T126.heap) n0 Z131 F126_2 F126_3) hZ (hw _ (List.mem_of_getElem? (i := 50) rfl)) (hw _ (List.mem_of_getElem? (i := 28) rfl)) (by decide) (by decide)) q135a q135c (g := (mkF m 95 #[.val (.int p0), .val (.int p1), .val (.int p2), .val (.int p3), .val (.int v2), .val (.int v4), .val (.ref b109_0), .val (.int v9), .val (.ref b116), .unset] [(.int (2147483647 : Int32)), (.ref b116)])) rfl (by rw [hml]; rfl) (Steps.refl _) (argsL := [(.int (2147483647 : Int32))]) (rest := []) (lenOf pd10 rfl) rfl (by show 2 * 0 + _ ≤ _; exact Nat.le_of_eq rfl) (hb hby at_95) (fun _ _ => ⟨rfl, e133, (by decide : 3 + 0 ≤ _), (by decide : 9 + 0 ≤ _)⟩)
        dsimp only [Pt.U, Pt.locs, Pt.cells, Pt.slots] at X135 l135 y135 z135 st135 hQ135
        subst l135 y135 z135
        obtain ⟨rfl, N135q, e135⟩ := hQ135
        have N135 := Fr.app N133 N135q
        obtain ⟨T138, lc138, X138, N138, e138, st138⟩ := own_mrg (n0 := n0) (h := T126.heap) (g := (mkF m 98 #[.val (.int p0), .val (.int p1), .val (.int p2), .val (.int p3), .val (.int v2), .val (.int v4), .val (.ref b109_0), .val (.int v9), .val (.ref b116), .unset] [(.int (own_r8 (2147483647 : Int32) v2 v4))])) (g' := (mkF m 106 #[.val (.int p0), .val (.int p1), .val (.int p2), .val (.int p3), .val (.int v2), .val (.int v4), .val (.ref b109_0), .val (.int v9), .val (.ref b116), .unset] [(.int v12)])) X135 (by
          by_cases hc98_11 : (own_r8 (2147483647 : Int32) v2 v4) = (0 : Int32)
          · have hgo136 : ∀ t, Steps p.tables e below (T135.setTop (mkF m 106 #[.val (.int p0), .val (.int p1), .val (.int p2), .val (.int p3), .val (.int v2), .val (.int v4), .val (.ref b109_0), .val (.int v9), .val (.ref b116), .unset] [(.int (0 : Int32))])) t → Steps p.tables e below (T135.setTop (mkF m 98 #[.val (.int p0), .val (.int p1), .val (.int p2), .val (.int p3), .val (.int v2), .val (.int v4), .val (.ref b109_0), .val (.int v9), .val (.ref b116), .unset] [(.int (own_r8 (2147483647 : Int32) v2 v4))])) t := by
              intro t kt
              show Steps p.tables e below (T135.setTop (mkF m 98 #[.val (.int p0), .val (.int p1), .val (.int p2), .val (.int p3), .val (.int v2), .val (.int v4), .val (.ref b109_0), .val (.int v9), .val (.ref b116), .unset] [(.int (own_r8 (2147483647 : Int32) v2 v4))])) _
              refine XS.ifYes X135.here hx rfl (pc0 := 98) (pc' := 105) rfl (hb hby at_98) rfl ((if0 _ _).trans (teq hc98_11).1) (by decide) (by decide) ?_
              show Steps p.tables e below (T135.setTop (mkF m 105 #[.val (.int p0), .val (.int p1), .val (.int p2), .val (.int p3), .val (.int v2), .val (.int v4), .val (.ref b109_0), .val (.int v9), .val (.ref b116), .unset] [])) _
              refine XS.iconst X135.here hx rfl (hb hby at_105) ?_
              exact kt
            refine own_arm hgo136 ?_
            exact own_armEnd X135 N135 e135 (by rw [hv12.trans (if_pos hc98_11)])
          · have hgo137 : ∀ t, Steps p.tables e below (T135.setTop (mkF m 106 #[.val (.int p0), .val (.int p1), .val (.int p2), .val (.int p3), .val (.int v2), .val (.int v4), .val (.ref b109_0), .val (.int v9), .val (.ref b116), .unset] [(.int (1 : Int32))])) t → Steps p.tables e below (T135.setTop (mkF m 98 #[.val (.int p0), .val (.int p1), .val (.int p2), .val (.int p3), .val (.int v2), .val (.int v4), .val (.ref b109_0), .val (.int v9), .val (.ref b116), .unset] [(.int (own_r8 (2147483647 : Int32) v2 v4))])) t := by
              intro t kt
              show Steps p.tables e below (T135.setTop (mkF m 98 #[.val (.int p0), .val (.int p1), .val (.int p2), .val (.int p3), .val (.int v2), .val (.int v4), .val (.ref b109_0), .val (.int v9), .val (.ref b116), .unset] [(.int (own_r8 (2147483647 : Int32) v2 v4))])) _
              refine XS.ifNo X135.here hx rfl (hb hby at_98) rfl ((if0 _ _).trans (feq hc98_11).1) ?_
              show Steps p.tables e below (T135.setTop (mkF m 101 #[.val (.int p0), .val (.int p1), .val (.int p2), .val (.int p3), .val (.int v2), .val (.int v4), .val (.ref b109_0), .val (.int v9), .val (.ref b116), .unset] [])) _
              refine XS.iconst X135.here hx rfl (hb hby at_101) ?_
              show Steps p.tables e below (T135.setTop (mkF m 102 #[.val (.int p0), .val (.int p1), .val (.int p2), .val (.int p3), .val (.int v2), .val (.int v4), .val (.ref b109_0), .val (.int v9), .val (.ref b116), .unset] [(.int (1 : Int32))])) _
              refine XS.goto X135.here hx rfl (pc0 := 102) (pc' := 106) rfl (hb hby at_102) (by decide) (by decide) ?_
              exact kt
            refine own_arm hgo137 ?_
            exact own_armEnd X135 N135 e135 (by rw [hv12.trans (if_neg hc98_11)]))
        have hgo139 : ∀ t, Steps p.tables e below (T138.setTop (mkF m 106 #[.val (.int p0), .val (.int p1), .val (.int p2), .val (.int p3), .val (.int v2), .val (.int v4), .val (.ref b109_0), .val (.int v9), .val (.ref b116), .unset] [(.int v12)])) t → Steps p.tables e below (T133.setTop (mkF m 88 #[.val (.int p0), .val (.int p1), .val (.int p2), .val (.int p3), .val (.int v2), .val (.int v4), .val (.ref b109_0), .val (.int v9), .val (.ref b116), .unset] [(.int (own_r8 (0 : Int32) v2 v4))])) t := by
          intro t kt
          show Steps p.tables e below (T133.setTop (mkF m 88 #[.val (.int p0), .val (.int p1), .val (.int p2), .val (.int p3), .val (.int v2), .val (.int v4), .val (.ref b109_0), .val (.int v9), .val (.ref b116), .unset] [(.int (own_r8 (0 : Int32) v2 v4))])) _
          refine XS.ifNo X133.here hx rfl (hb hby at_88) rfl ((if0 _ _).trans (feq hc88_10).1) ?_
          show Steps p.tables e below (T133.setTop (mkF m 91 #[.val (.int p0), .val (.int p1), .val (.int p2), .val (.int p3), .val (.int v2), .val (.int v4), .val (.ref b109_0), .val (.int v9), .val (.ref b116), .unset] [])) _
          refine XS.aload X133.here hx rfl (hb hby at_91) rfl rfl ?_
          show Steps p.tables e below (T133.setTop (mkF m 93 #[.val (.int p0), .val (.int p1), .val (.int p2), .val (.int p3), .val (.int v2), .val (.int v4), .val (.ref b109_0), .val (.int v9), .val (.ref b116), .unset] [(.ref b116)])) _
          refine X133.ldcInt hx hown (mvT hZ (hw _ (List.mem_of_getElem? (i := 51) rfl))) (g := (mkF m 93 #[.val (.int p0), .val (.int p1), .val (.int p2), .val (.int p3), .val (.int v2), .val (.int v4), .val (.ref b109_0), .val (.int v9), .val (.ref b116), .unset] [(.ref b116)])) rfl (hb hby at_93) _ ?_
          show Steps p.tables e below (T133.setTop (mkF m 95 #[.val (.int p0), .val (.int p1), .val (.int p2), .val (.int p3), .val (.int v2), .val (.int v4), .val (.ref b109_0), .val (.int v9), .val (.ref b116), .unset] [(.int (2147483647 : Int32)), (.ref b116)])) _
          refine st135.trans ?_
          show Steps p.tables e below (T135.setTop (mkF m 98 #[.val (.int p0), .val (.int p1), .val (.int p2), .val (.int p3), .val (.int v2), .val (.int v4), .val (.ref b109_0), .val (.int v9), .val (.ref b116), .unset] [(.int (own_r8 (2147483647 : Int32) v2 v4))])) _
          refine st138 _ ?_
          exact kt
        refine own_arm hgo139 ?_
        exact own_armEnd X138 N138 e138 (by rw [hv13.trans (if_neg hc88_10)]))
    obtain ⟨cq141, kq141, q141a, q141b, q141c⟩ := isOf hZ e140 F126_0
    obtain ⟨_, _, ⟨T141, L141, k141, n141⟩, -, X141, ⟨Lc141, hQ141, l141, y141, z141⟩, st141⟩ := X140.virtualBack hx (y := (⟨"inducere/OrderConstraints$Constraint", "allowsAll", "()Z"⟩ : MethodName)) (z := (⟨"inducere/OrderConstraints$Constraint", "allowsAll", "()Z"⟩ : MethodName)) hown (mvT hZ (hw _ (List.mem_of_getElem? (i := 52) rfl))) (mvT hZ (hw _ (List.mem_of_getElem? (i := 53) rfl))) (notFace_of_selects (args := #[]) (mvT hZ (hw _ (List.mem_of_getElem? (i := 55) rfl)))) (mvT hZ (hw _ (List.mem_of_getElem? (i := 55) rfl))) (mvT hZ (hw _ (List.mem_of_getElem? (i := 54) rfl))) (by decide) (backOf (W := 0) (rm9 l Z a0 hw [] b116 v2 v4 (T126.heap) n0 Z131 F126_2 F126_3) hZ (hw _ (List.mem_of_getElem? (i := 56) rfl)) (hw _ (List.mem_of_getElem? (i := 28) rfl)) (by decide) (by decide)) q141a q141c (g := (mkF m 110 #[.val (.int p0), .val (.int p1), .val (.int p2), .val (.int p3), .val (.int v2), .val (.int v4), .val (.ref b109_0), .val (.int v9), .val (.ref b116), .val (.int v13)] [(.ref b116)])) rfl (by rw [hml]; rfl) (Steps.refl _) (argsL := []) (rest := []) (lenOf pd11 rfl) rfl (by show 2 * 0 + _ ≤ _; exact Nat.le_of_eq rfl) (hb hby at_110) (fun _ _ => ⟨rfl, e140, (by decide : 3 + 0 ≤ _), (by decide : 9 + 0 ≤ _)⟩)
    dsimp only [Pt.U, Pt.locs, Pt.cells, Pt.slots] at X141 l141 y141 z141 st141 hQ141
    subst l141 y141 z141
    obtain ⟨rfl, N141q, e141⟩ := hQ141
    have N141 := Fr.app N140 N141q
    obtain ⟨v15, hv15⟩ : ∃ z : Int32, z = (if (own_r9 v2 v4) = v13 then (1 : Int32) else (0 : Int32)) := ⟨_, rfl⟩
    obtain ⟨T144, lc144, X144, N144, e144, st144⟩ := own_mrg (n0 := n0) (h := T126.heap) (g := (mkF m 115 #[.val (.int p0), .val (.int p1), .val (.int p2), .val (.int p3), .val (.int v2), .val (.int v4), .val (.ref b109_0), .val (.int v9), .val (.ref b116), .val (.int v13)] [(.int v13), (.int (own_r9 v2 v4))])) (g' := (mkF m 123 #[.val (.int p0), .val (.int p1), .val (.int p2), .val (.int p3), .val (.int v2), .val (.int v4), .val (.ref b109_0), .val (.int v9), .val (.ref b116), .val (.int v13)] [(.int v15)])) X141 (by
      by_cases hc115_14 : (own_r9 v2 v4) = v13
      · have hgo142 : ∀ t, Steps p.tables e below (T141.setTop (mkF m 123 #[.val (.int p0), .val (.int p1), .val (.int p2), .val (.int p3), .val (.int v2), .val (.int v4), .val (.ref b109_0), .val (.int v9), .val (.ref b116), .val (.int v13)] [(.int (1 : Int32))])) t → Steps p.tables e below (T141.setTop (mkF m 115 #[.val (.int p0), .val (.int p1), .val (.int p2), .val (.int p3), .val (.int v2), .val (.int v4), .val (.ref b109_0), .val (.int v9), .val (.ref b116), .val (.int v13)] [(.int v13), (.int (own_r9 v2 v4))])) t := by
          intro t kt
          show Steps p.tables e below (T141.setTop (mkF m 115 #[.val (.int p0), .val (.int p1), .val (.int p2), .val (.int p3), .val (.int v2), .val (.int v4), .val (.ref b109_0), .val (.int v9), .val (.ref b116), .val (.int v13)] [(.int v13), (.int (own_r9 v2 v4))])) _
          refine XS.icmpNo X141.here hx rfl (hb hby at_115) rfl (teq hc115_14).2 ?_
          show Steps p.tables e below (T141.setTop (mkF m 118 #[.val (.int p0), .val (.int p1), .val (.int p2), .val (.int p3), .val (.int v2), .val (.int v4), .val (.ref b109_0), .val (.int v9), .val (.ref b116), .val (.int v13)] [])) _
          refine XS.iconst X141.here hx rfl (hb hby at_118) ?_
          show Steps p.tables e below (T141.setTop (mkF m 119 #[.val (.int p0), .val (.int p1), .val (.int p2), .val (.int p3), .val (.int v2), .val (.int v4), .val (.ref b109_0), .val (.int v9), .val (.ref b116), .val (.int v13)] [(.int (1 : Int32))])) _
          refine XS.goto X141.here hx rfl (pc0 := 119) (pc' := 123) rfl (hb hby at_119) (by decide) (by decide) ?_
          exact kt
        refine own_arm hgo142 ?_
        exact own_armEnd X141 N141 e141 (by rw [hv15.trans (if_pos hc115_14)])
      · have hgo143 : ∀ t, Steps p.tables e below (T141.setTop (mkF m 123 #[.val (.int p0), .val (.int p1), .val (.int p2), .val (.int p3), .val (.int v2), .val (.int v4), .val (.ref b109_0), .val (.int v9), .val (.ref b116), .val (.int v13)] [(.int (0 : Int32))])) t → Steps p.tables e below (T141.setTop (mkF m 115 #[.val (.int p0), .val (.int p1), .val (.int p2), .val (.int p3), .val (.int v2), .val (.int v4), .val (.ref b109_0), .val (.int v9), .val (.ref b116), .val (.int v13)] [(.int v13), (.int (own_r9 v2 v4))])) t := by
          intro t kt
          show Steps p.tables e below (T141.setTop (mkF m 115 #[.val (.int p0), .val (.int p1), .val (.int p2), .val (.int p3), .val (.int v2), .val (.int v4), .val (.ref b109_0), .val (.int v9), .val (.ref b116), .val (.int v13)] [(.int v13), (.int (own_r9 v2 v4))])) _
          refine XS.icmpYes X141.here hx rfl (pc0 := 115) (pc' := 122) rfl (hb hby at_115) rfl (feq hc115_14).2 (by decide) (by decide) ?_
          show Steps p.tables e below (T141.setTop (mkF m 122 #[.val (.int p0), .val (.int p1), .val (.int p2), .val (.int p3), .val (.int v2), .val (.int v4), .val (.ref b109_0), .val (.int v9), .val (.ref b116), .val (.int v13)] [])) _
          refine XS.iconst X141.here hx rfl (hb hby at_122) ?_
          exact kt
        refine own_arm hgo143 ?_
        exact own_armEnd X141 N141 e141 (by rw [hv15.trans (if_neg hc115_14)]))
    have hgo145 : ∀ t, Steps p.tables e below (T144.setTop (mkF m 123 #[.val (.int p0), .val (.int p1), .val (.int p2), .val (.int p3), .val (.int v2), .val (.int v4), .val (.ref b109_0), .val (.int v9), .val (.ref b116), .val (.int v13)] [(.int v15)])) t → Steps p.tables e below (T106.setTop (mkF m 33 #[.val (.int p0), .val (.int p1), .val (.int p2), .val (.int p3), .val (.int v2), .val (.int v4), .unset, .unset, .unset, .unset] [(.int (p2 &&& (4 : Int32)))])) t := by
      intro t kt
      show Steps p.tables e below (T106.setTop (mkF m 33 #[.val (.int p0), .val (.int p1), .val (.int p2), .val (.int p3), .val (.int v2), .val (.int v4), .unset, .unset, .unset, .unset] [(.int (p2 &&& (4 : Int32)))])) _
      refine XS.ifYes X106.here hx rfl (pc0 := 33) (pc' := 40) rfl (hb hby at_33) rfl ((if0 _ _).trans (teq hc33_5).1) (by decide) (by decide) ?_
      show Steps p.tables e below (T106.setTop (mkF m 40 #[.val (.int p0), .val (.int p1), .val (.int p2), .val (.int p3), .val (.int v2), .val (.int v4), .unset, .unset, .unset, .unset] [])) _
      refine XS.iloadN X106.here hx rfl (hb hby at_40) rfl ?_
      show Steps p.tables e below (T106.setTop (mkF m 41 #[.val (.int p0), .val (.int p1), .val (.int p2), .val (.int p3), .val (.int v2), .val (.int v4), .unset, .unset, .unset, .unset] [(.int p3)])) _
      refine XS.sipush X106.here hx rfl (hb hby at_41) ?_
      show Steps p.tables e below (T106.setTop (mkF m 44 #[.val (.int p0), .val (.int p1), .val (.int p2), .val (.int p3), .val (.int v2), .val (.int v4), .unset, .unset, .unset, .unset] [(.int (255 : Int32)), (.int p3)])) _
      refine XS.iand X106.here hx rfl (hb hby at_44) rfl ?_
      show Steps p.tables e below (T106.setTop (mkF m 45 #[.val (.int p0), .val (.int p1), .val (.int p2), .val (.int p3), .val (.int v2), .val (.int v4), .unset, .unset, .unset, .unset] [(.int (p3 &&& (255 : Int32)))])) _
      refine XS.i2c X106.here hx rfl (hb hby at_45) rfl ?_
      show Steps p.tables e below (T106.setTop (mkF m 46 #[.val (.int p0), .val (.int p1), .val (.int p2), .val (.int p3), .val (.int v2), .val (.int v4), .unset, .unset, .unset, .unset] [(.int ((p3 &&& (255 : Int32)).toUInt32.toUInt16.toUInt32.toInt32))])) _
      rw [← hv7]
      show Steps p.tables e below (T106.setTop (mkF m 46 #[.val (.int p0), .val (.int p1), .val (.int p2), .val (.int p3), .val (.int v2), .val (.int v4), .unset, .unset, .unset, .unset] [(.int v7)])) _
      refine st109 _ ?_
      show Steps p.tables e below (T109.setTop (mkF m 49 #[.val (.int p0), .val (.int p1), .val (.int p2), .val (.int p3), .val (.int v2), .val (.int v4), .unset, .unset, .unset, .unset] [(.ref b109_0)])) _
      refine XS.astore X109.here hx rfl (hb hby at_49) rfl rfl (l' := #[.val (.int p0), .val (.int p1), .val (.int p2), .val (.int p3), .val (.int v2), .val (.int v4), .val (.ref b109_0), .unset, .unset, .unset]) rfl ?_
      show Steps p.tables e below (T109.setTop (mkF m 51 #[.val (.int p0), .val (.int p1), .val (.int p2), .val (.int p3), .val (.int v2), .val (.int v4), .val (.ref b109_0), .unset, .unset, .unset] [])) _
      refine XS.iloadN X109.here hx rfl (hb hby at_51) rfl ?_
      show Steps p.tables e below (T109.setTop (mkF m 52 #[.val (.int p0), .val (.int p1), .val (.int p2), .val (.int p3), .val (.int v2), .val (.int v4), .val (.ref b109_0), .unset, .unset, .unset] [(.int p2)])) _
      refine XS.bipush X109.here hx rfl (hb hby at_52) ?_
      show Steps p.tables e below (T109.setTop (mkF m 54 #[.val (.int p0), .val (.int p1), .val (.int p2), .val (.int p3), .val (.int v2), .val (.int v4), .val (.ref b109_0), .unset, .unset, .unset] [(.int (8 : Int32)), (.int p2)])) _
      refine XS.iand X109.here hx rfl (hb hby at_54) rfl ?_
      show Steps p.tables e below (T109.setTop (mkF m 55 #[.val (.int p0), .val (.int p1), .val (.int p2), .val (.int p3), .val (.int v2), .val (.int v4), .val (.ref b109_0), .unset, .unset, .unset] [(.int (p2 &&& (8 : Int32)))])) _
      refine st115 _ ?_
      show Steps p.tables e below (T115.setTop (mkF m 63 #[.val (.int p0), .val (.int p1), .val (.int p2), .val (.int p3), .val (.int v2), .val (.int v4), .val (.ref b109_0), .unset, .unset, .unset] [(.int v9)])) _
      refine XS.istore X115.here hx rfl (hb hby at_63) rfl (l' := #[.val (.int p0), .val (.int p1), .val (.int p2), .val (.int p3), .val (.int v2), .val (.int v4), .val (.ref b109_0), .val (.int v9), .unset, .unset]) rfl ?_
      show Steps p.tables e below (T115.setTop (mkF m 65 #[.val (.int p0), .val (.int p1), .val (.int p2), .val (.int p3), .val (.int v2), .val (.int v4), .val (.ref b109_0), .val (.int v9), .unset, .unset] [])) _
      refine st116 _ ?_
      show Steps p.tables e below (T116.setTop (mkF m 68 #[.val (.int p0), .val (.int p1), .val (.int p2), .val (.int p3), .val (.int v2), .val (.int v4), .val (.ref b109_0), .val (.int v9), .unset, .unset] [(.ref b116)])) _
      refine XS.dup X116.here hx rfl (hb hby at_68) rfl rfl ?_
      show Steps p.tables e below (T116.setTop (mkF m 69 #[.val (.int p0), .val (.int p1), .val (.int p2), .val (.int p3), .val (.int v2), .val (.int v4), .val (.ref b109_0), .val (.int v9), .unset, .unset] [(.ref b116), (.ref b116)])) _
      refine XS.aload X116.here hx rfl (hb hby at_69) rfl rfl ?_
      show Steps p.tables e below (T116.setTop (mkF m 71 #[.val (.int p0), .val (.int p1), .val (.int p2), .val (.int p3), .val (.int v2), .val (.int v4), .val (.ref b109_0), .val (.int v9), .unset, .unset] [(.ref b109_0), (.ref b116), (.ref b116)])) _
      refine XS.iload X116.here hx rfl (hb hby at_71) rfl ?_
      show Steps p.tables e below (T116.setTop (mkF m 73 #[.val (.int p0), .val (.int p1), .val (.int p2), .val (.int p3), .val (.int v2), .val (.int v4), .val (.ref b109_0), .val (.int v9), .unset, .unset] [(.int v2), (.ref b109_0), (.ref b116), (.ref b116)])) _
      refine XS.iload X116.here hx rfl (hb hby at_73) rfl ?_
      show Steps p.tables e below (T116.setTop (mkF m 75 #[.val (.int p0), .val (.int p1), .val (.int p2), .val (.int p3), .val (.int v2), .val (.int v4), .val (.ref b109_0), .val (.int v9), .unset, .unset] [(.int v4), (.int v2), (.ref b109_0), (.ref b116), (.ref b116)])) _
      refine XS.iload X116.here hx rfl (hb hby at_75) rfl ?_
      show Steps p.tables e below (T116.setTop (mkF m 77 #[.val (.int p0), .val (.int p1), .val (.int p2), .val (.int p3), .val (.int v2), .val (.int v4), .val (.ref b109_0), .val (.int v9), .unset, .unset] [(.int v9), (.int v4), (.int v2), (.ref b109_0), (.ref b116), (.ref b116)])) _
      refine st126.trans ?_
      show Steps p.tables e below (T126.setTop (mkF m 80 #[.val (.int p0), .val (.int p1), .val (.int p2), .val (.int p3), .val (.int v2), .val (.int v4), .val (.ref b109_0), .val (.int v9), .unset, .unset] [(.ref b116)])) _
      refine XS.astore X126.here hx rfl (hb hby at_80) rfl rfl (l' := #[.val (.int p0), .val (.int p1), .val (.int p2), .val (.int p3), .val (.int v2), .val (.int v4), .val (.ref b109_0), .val (.int v9), .val (.ref b116), .unset]) rfl ?_
      show Steps p.tables e below (T126.setTop (mkF m 82 #[.val (.int p0), .val (.int p1), .val (.int p2), .val (.int p3), .val (.int v2), .val (.int v4), .val (.ref b109_0), .val (.int v9), .val (.ref b116), .unset] [])) _
      refine XS.aload X126.here hx rfl (hb hby at_82) rfl rfl ?_
      show Steps p.tables e below (T126.setTop (mkF m 84 #[.val (.int p0), .val (.int p1), .val (.int p2), .val (.int p3), .val (.int v2), .val (.int v4), .val (.ref b109_0), .val (.int v9), .val (.ref b116), .unset] [(.ref b116)])) _
      refine XS.iconst X126.here hx rfl (hb hby at_84) ?_
      show Steps p.tables e below (T126.setTop (mkF m 85 #[.val (.int p0), .val (.int p1), .val (.int p2), .val (.int p3), .val (.int v2), .val (.int v4), .val (.ref b109_0), .val (.int v9), .val (.ref b116), .unset] [(.int (0 : Int32)), (.ref b116)])) _
      refine st133.trans ?_
      show Steps p.tables e below (T133.setTop (mkF m 88 #[.val (.int p0), .val (.int p1), .val (.int p2), .val (.int p3), .val (.int v2), .val (.int v4), .val (.ref b109_0), .val (.int v9), .val (.ref b116), .unset] [(.int (own_r8 (0 : Int32) v2 v4))])) _
      refine st140 _ ?_
      show Steps p.tables e below (T140.setTop (mkF m 106 #[.val (.int p0), .val (.int p1), .val (.int p2), .val (.int p3), .val (.int v2), .val (.int v4), .val (.ref b109_0), .val (.int v9), .val (.ref b116), .unset] [(.int v13)])) _
      refine XS.istore X140.here hx rfl (hb hby at_106) rfl (l' := #[.val (.int p0), .val (.int p1), .val (.int p2), .val (.int p3), .val (.int v2), .val (.int v4), .val (.ref b109_0), .val (.int v9), .val (.ref b116), .val (.int v13)]) rfl ?_
      show Steps p.tables e below (T140.setTop (mkF m 108 #[.val (.int p0), .val (.int p1), .val (.int p2), .val (.int p3), .val (.int v2), .val (.int v4), .val (.ref b109_0), .val (.int v9), .val (.ref b116), .val (.int v13)] [])) _
      refine XS.aload X140.here hx rfl (hb hby at_108) rfl rfl ?_
      show Steps p.tables e below (T140.setTop (mkF m 110 #[.val (.int p0), .val (.int p1), .val (.int p2), .val (.int p3), .val (.int v2), .val (.int v4), .val (.ref b109_0), .val (.int v9), .val (.ref b116), .val (.int v13)] [(.ref b116)])) _
      refine st141.trans ?_
      show Steps p.tables e below (T141.setTop (mkF m 113 #[.val (.int p0), .val (.int p1), .val (.int p2), .val (.int p3), .val (.int v2), .val (.int v4), .val (.ref b109_0), .val (.int v9), .val (.ref b116), .val (.int v13)] [(.int (own_r9 v2 v4))])) _
      refine XS.iload X141.here hx rfl (hb hby at_113) rfl ?_
      show Steps p.tables e below (T141.setTop (mkF m 115 #[.val (.int p0), .val (.int p1), .val (.int p2), .val (.int p3), .val (.int v2), .val (.int v4), .val (.ref b109_0), .val (.int v9), .val (.ref b116), .val (.int v13)] [(.int v13), (.int (own_r9 v2 v4))])) _
      refine st144 _ ?_
      exact kt
    refine own_go hgo145 ?_
    have hz146 : v15 = 1 := own_leaf0 (p0 := p0) (p1 := p1) (p2 := p2) (p3 := p3) (ucs := ucs) hv2 hv4 hv7 hv9 hv12 hv13 hv15 hc33_5
    exact own_retZ X144 hx Bd.returns Bd.notSynchronized (hb hby at_123) (by decide) (by decide) (Or.inr hz146) ⟨by rw [hz146], N144⟩
  · obtain ⟨v17, hv17⟩ : ∃ z : Int32, z = (if (p2 &&& (8 : Int32)) = (0 : Int32) then (0 : Int32) else (1 : Int32)) := ⟨_, rfl⟩
    obtain ⟨T149, lc149, X149, N149, e149, st149⟩ := own_mrg (n0 := n0) (h := h0) (g := (mkF m 55 #[.val (.int p0), .val (.int p1), .val (.int p2), .val (.int p3), .val (.int v2), .val (.int v4), .val .null, .unset, .unset, .unset] [(.int (p2 &&& (8 : Int32)))])) (g' := (mkF m 63 #[.val (.int p0), .val (.int p1), .val (.int p2), .val (.int p3), .val (.int v2), .val (.int v4), .val .null, .unset, .unset, .unset] [(.int v17)])) X106 (by
      by_cases hc55_16 : (p2 &&& (8 : Int32)) = (0 : Int32)
      · have hgo147 : ∀ t, Steps p.tables e below (T106.setTop (mkF m 63 #[.val (.int p0), .val (.int p1), .val (.int p2), .val (.int p3), .val (.int v2), .val (.int v4), .val .null, .unset, .unset, .unset] [(.int (0 : Int32))])) t → Steps p.tables e below (T106.setTop (mkF m 55 #[.val (.int p0), .val (.int p1), .val (.int p2), .val (.int p3), .val (.int v2), .val (.int v4), .val .null, .unset, .unset, .unset] [(.int (p2 &&& (8 : Int32)))])) t := by
          intro t kt
          show Steps p.tables e below (T106.setTop (mkF m 55 #[.val (.int p0), .val (.int p1), .val (.int p2), .val (.int p3), .val (.int v2), .val (.int v4), .val .null, .unset, .unset, .unset] [(.int (p2 &&& (8 : Int32)))])) _
          refine XS.ifYes X106.here hx rfl (pc0 := 55) (pc' := 62) rfl (hb hby at_55) rfl ((if0 _ _).trans (teq hc55_16).1) (by decide) (by decide) ?_
          show Steps p.tables e below (T106.setTop (mkF m 62 #[.val (.int p0), .val (.int p1), .val (.int p2), .val (.int p3), .val (.int v2), .val (.int v4), .val .null, .unset, .unset, .unset] [])) _
          refine XS.iconst X106.here hx rfl (hb hby at_62) ?_
          exact kt
        refine own_arm hgo147 ?_
        exact own_armEnd X106 N106 e106 (by rw [hv17.trans (if_pos hc55_16)])
      · have hgo148 : ∀ t, Steps p.tables e below (T106.setTop (mkF m 63 #[.val (.int p0), .val (.int p1), .val (.int p2), .val (.int p3), .val (.int v2), .val (.int v4), .val .null, .unset, .unset, .unset] [(.int (1 : Int32))])) t → Steps p.tables e below (T106.setTop (mkF m 55 #[.val (.int p0), .val (.int p1), .val (.int p2), .val (.int p3), .val (.int v2), .val (.int v4), .val .null, .unset, .unset, .unset] [(.int (p2 &&& (8 : Int32)))])) t := by
          intro t kt
          show Steps p.tables e below (T106.setTop (mkF m 55 #[.val (.int p0), .val (.int p1), .val (.int p2), .val (.int p3), .val (.int v2), .val (.int v4), .val .null, .unset, .unset, .unset] [(.int (p2 &&& (8 : Int32)))])) _
          refine XS.ifNo X106.here hx rfl (hb hby at_55) rfl ((if0 _ _).trans (feq hc55_16).1) ?_
          show Steps p.tables e below (T106.setTop (mkF m 58 #[.val (.int p0), .val (.int p1), .val (.int p2), .val (.int p3), .val (.int v2), .val (.int v4), .val .null, .unset, .unset, .unset] [])) _
          refine XS.iconst X106.here hx rfl (hb hby at_58) ?_
          show Steps p.tables e below (T106.setTop (mkF m 59 #[.val (.int p0), .val (.int p1), .val (.int p2), .val (.int p3), .val (.int v2), .val (.int v4), .val .null, .unset, .unset, .unset] [(.int (1 : Int32))])) _
          refine XS.goto X106.here hx rfl (pc0 := 59) (pc' := 63) rfl (hb hby at_59) (by decide) (by decide) ?_
          exact kt
        refine own_arm hgo148 ?_
        exact own_armEnd X106 N106 e106 (by rw [hv17.trans (if_neg hc55_16)]))
    obtain ⟨T150, h150, X150, e150, E150, A150, D150, -, st150⟩ := newO X149 hx hZ hown (hw _ (List.mem_of_getElem? (i := 26) rfl)) (hw _ (List.mem_of_getElem? (i := 27) rfl)) (hw _ (List.mem_of_getElem? (i := 28) rfl)) e149 (g := (mkF m 65 #[.val (.int p0), .val (.int p1), .val (.int p2), .val (.int p3), .val (.int v2), .val (.int v4), .val .null, .val (.int v17), .unset, .unset] [])) rfl (hb hby at_65) (by decide) (by decide)
    obtain ⟨b150, g150⟩ : ∃ z, z = h0.size := ⟨_, rfl⟩
    rw [← g150] at A150 D150 st150
    have g_b150 : n0 ≤ b150 := Nat.le_trans Z0 (Nat.le_of_eq g150.symm)
    have sz_b150 : h0.size ≤ b150 := Nat.le_trans K0.1 (Nat.le_of_eq g150.symm)
    have F151 := S_cs.ext E150
    have Z152 : n0 ≤ h150.size := Nat.le_trans Z0 E150.1
    have K153 : Keep h0 h150 [] := K0.ext E150
    have F154 : Fld Z h150 b150 "inducere/OrderConstraints$Constraint" "relation" "Ljava/lang/String;" .null := D150 (Or.inr (hw _ (List.mem_of_getElem? (i := 39) rfl))) (ty := (.object "java/lang/String")) (by decide)
    have F155 : Fld Z h150 b150 "inducere/OrderConstraints$Constraint" "min" "I" (.int (0 : Int32)) := D150 (Or.inr (hw _ (List.mem_of_getElem? (i := 41) rfl))) (ty := .int) (by decide)
    have F156 : Fld Z h150 b150 "inducere/OrderConstraints$Constraint" "max" "I" (.int (0 : Int32)) := D150 (Or.inr (hw _ (List.mem_of_getElem? (i := 43) rfl))) (ty := .int) (by decide)
    have F157 : Fld Z h150 b150 "inducere/OrderConstraints$Constraint" "bounded" "Z" (.int (0 : Int32)) := D150 (Or.inr (hw _ (List.mem_of_getElem? (i := 45) rfl))) (ty := .boolean) (by decide)
    obtain ⟨_, _, ⟨T158, L158, k158, n158⟩, -, X158, ⟨Lc158, hQ158, l158, y158, z158⟩, st158⟩ := X150.specialBack hx (y := (⟨"inducere/OrderConstraints$Constraint", "<init>", "(Ljava/lang/String;IIZ)V"⟩ : MethodName)) rfl hown (mvT hZ (hw _ (List.mem_of_getElem? (i := 29) rfl))) (mvT hZ (hw _ (List.mem_of_getElem? (i := 30) rfl))) (mvT hZ (hw _ (List.mem_of_getElem? (i := 31) rfl))) (by decide) (backOf (W := 1) (rm6n l Z a0 hw [] b150 v2 v4 v17 .null (0 : Int32) (0 : Int32) (0 : Int32) h150 n0 Z152 A150 F154 F155 F156 F157 g_b150) hZ (hw _ (List.mem_of_getElem? (i := 31) rfl)) (hw _ (List.mem_of_getElem? (i := 28) rfl)) (by decide) (by decide)) (g := (mkF m 77 #[.val (.int p0), .val (.int p1), .val (.int p2), .val (.int p3), .val (.int v2), .val (.int v4), .val .null, .val (.int v17), .unset, .unset] [(.int v17), (.int v4), (.int v2), .null, (.ref b150), (.ref b150)])) rfl (by rw [hml]; rfl) (Steps.refl _) (a := b150) (argsL := [.null, (.int v2), (.int v4), (.int v17)]) (rest := [(.ref b150)]) (lenOf pd9 rfl) rfl (by show 2 * 0 + _ ≤ _; exact Nat.le_of_eq rfl) (hb hby at_77) (fun _ _ => ⟨rfl, e150, (by decide : 1 + 0 ≤ _), (by decide : 4 + 0 ≤ _)⟩)
    dsimp only [Pt.U, Pt.locs, Pt.cells, Pt.slots] at X158 l158 y158 z158 st158 hQ158
    subst l158 y158 z158
    obtain ⟨rfl, N158q, K158q, F158_0, F158_1, F158_2, F158_3, F158_4⟩ := hQ158
    have F159 := own_staKeep F151 K158q (allS (own_plainE A150) all0)
    have F160 := A150.keep K158q
    have Z161 : n0 ≤ T158.heap.size := Nat.le_trans Z152 K158q.1
    have K162 : Keep h0 T158.heap [] := K153.trans K158q (allS (Or.inr sz_b150) all0)
    have N158 := Fr.app N149 N158q
    obtain ⟨cq163, kq163, q163a, q163b, q163c⟩ := isOf hZ (rfl : T158.heap = T158.heap) F158_0
    obtain ⟨_, _, ⟨T163, L163, k163, n163⟩, -, X163, ⟨Lc163, hQ163, l163, y163, z163⟩, st163⟩ := X158.virtualBack hx (y := (⟨"inducere/OrderConstraints$Constraint", "holds", "(I)Z"⟩ : MethodName)) (z := (⟨"inducere/OrderConstraints$Constraint", "holds", "(I)Z"⟩ : MethodName)) hown (mvT hZ (hw _ (List.mem_of_getElem? (i := 46) rfl))) (mvT hZ (hw _ (List.mem_of_getElem? (i := 47) rfl))) (notFace_of_selects (args := #[]) (mvT hZ (hw _ (List.mem_of_getElem? (i := 49) rfl)))) (mvT hZ (hw _ (List.mem_of_getElem? (i := 49) rfl))) (mvT hZ (hw _ (List.mem_of_getElem? (i := 48) rfl))) (by decide) (backOf (W := 0) (rm8 l Z a0 hw [] b150 (0 : Int32) v2 v4 (T158.heap) n0 Z161 F158_2 F158_3) hZ (hw _ (List.mem_of_getElem? (i := 50) rfl)) (hw _ (List.mem_of_getElem? (i := 28) rfl)) (by decide) (by decide)) q163a q163c (g := (mkF m 85 #[.val (.int p0), .val (.int p1), .val (.int p2), .val (.int p3), .val (.int v2), .val (.int v4), .val .null, .val (.int v17), .val (.ref b150), .unset] [(.int (0 : Int32)), (.ref b150)])) rfl (by rw [hml]; rfl) (Steps.refl _) (argsL := [(.int (0 : Int32))]) (rest := []) (lenOf pd10 rfl) rfl (by show 2 * 0 + _ ≤ _; exact Nat.le_of_eq rfl) (hb hby at_85) (fun _ _ => ⟨rfl, (rfl : T158.heap = T158.heap), (by decide : 1 + 0 ≤ _), (by decide : 4 + 0 ≤ _)⟩)
    dsimp only [Pt.U, Pt.locs, Pt.cells, Pt.slots] at X163 l163 y163 z163 st163 hQ163
    subst l163 y163 z163
    obtain ⟨rfl, N163q, e163⟩ := hQ163
    have N163 := Fr.app N158 N163q
    obtain ⟨v20, hv20⟩ : ∃ z : Int32, z = (if (own_r8 (2147483647 : Int32) v2 v4) = (0 : Int32) then (0 : Int32) else (1 : Int32)) := ⟨_, rfl⟩
    obtain ⟨v21, hv21⟩ : ∃ z : Int32, z = (if (own_r8 (0 : Int32) v2 v4) = (0 : Int32) then (0 : Int32) else v20) := ⟨_, rfl⟩
    obtain ⟨T170, lc170, X170, N170, e170, st170⟩ := own_mrg (n0 := n0) (h := T158.heap) (g := (mkF m 88 #[.val (.int p0), .val (.int p1), .val (.int p2), .val (.int p3), .val (.int v2), .val (.int v4), .val .null, .val (.int v17), .val (.ref b150), .unset] [(.int (own_r8 (0 : Int32) v2 v4))])) (g' := (mkF m 106 #[.val (.int p0), .val (.int p1), .val (.int p2), .val (.int p3), .val (.int v2), .val (.int v4), .val .null, .val (.int v17), .val (.ref b150), .unset] [(.int v21)])) X163 (by
      by_cases hc88_18 : (own_r8 (0 : Int32) v2 v4) = (0 : Int32)
      · have hgo164 : ∀ t, Steps p.tables e below (T163.setTop (mkF m 106 #[.val (.int p0), .val (.int p1), .val (.int p2), .val (.int p3), .val (.int v2), .val (.int v4), .val .null, .val (.int v17), .val (.ref b150), .unset] [(.int (0 : Int32))])) t → Steps p.tables e below (T163.setTop (mkF m 88 #[.val (.int p0), .val (.int p1), .val (.int p2), .val (.int p3), .val (.int v2), .val (.int v4), .val .null, .val (.int v17), .val (.ref b150), .unset] [(.int (own_r8 (0 : Int32) v2 v4))])) t := by
          intro t kt
          show Steps p.tables e below (T163.setTop (mkF m 88 #[.val (.int p0), .val (.int p1), .val (.int p2), .val (.int p3), .val (.int v2), .val (.int v4), .val .null, .val (.int v17), .val (.ref b150), .unset] [(.int (own_r8 (0 : Int32) v2 v4))])) _
          refine XS.ifYes X163.here hx rfl (pc0 := 88) (pc' := 105) rfl (hb hby at_88) rfl ((if0 _ _).trans (teq hc88_18).1) (by decide) (by decide) ?_
          show Steps p.tables e below (T163.setTop (mkF m 105 #[.val (.int p0), .val (.int p1), .val (.int p2), .val (.int p3), .val (.int v2), .val (.int v4), .val .null, .val (.int v17), .val (.ref b150), .unset] [])) _
          refine XS.iconst X163.here hx rfl (hb hby at_105) ?_
          exact kt
        refine own_arm hgo164 ?_
        exact own_armEnd X163 N163 e163 (by rw [hv21.trans (if_pos hc88_18)])
      · obtain ⟨cq165, kq165, q165a, q165b, q165c⟩ := isOf hZ e163 F158_0
        obtain ⟨_, _, ⟨T165, L165, k165, n165⟩, -, X165, ⟨Lc165, hQ165, l165, y165, z165⟩, st165⟩ := X163.virtualBack hx (y := (⟨"inducere/OrderConstraints$Constraint", "holds", "(I)Z"⟩ : MethodName)) (z := (⟨"inducere/OrderConstraints$Constraint", "holds", "(I)Z"⟩ : MethodName)) hown (mvT hZ (hw _ (List.mem_of_getElem? (i := 46) rfl))) (mvT hZ (hw _ (List.mem_of_getElem? (i := 47) rfl))) (notFace_of_selects (args := #[]) (mvT hZ (hw _ (List.mem_of_getElem? (i := 49) rfl)))) (mvT hZ (hw _ (List.mem_of_getElem? (i := 49) rfl))) (mvT hZ (hw _ (List.mem_of_getElem? (i := 48) rfl))) (by decide) (backOf (W := 0) (rm8 l Z a0 hw [] b150 (2147483647 : Int32) v2 v4 (T158.heap) n0 Z161 F158_2 F158_3) hZ (hw _ (List.mem_of_getElem? (i := 50) rfl)) (hw _ (List.mem_of_getElem? (i := 28) rfl)) (by decide) (by decide)) q165a q165c (g := (mkF m 95 #[.val (.int p0), .val (.int p1), .val (.int p2), .val (.int p3), .val (.int v2), .val (.int v4), .val .null, .val (.int v17), .val (.ref b150), .unset] [(.int (2147483647 : Int32)), (.ref b150)])) rfl (by rw [hml]; rfl) (Steps.refl _) (argsL := [(.int (2147483647 : Int32))]) (rest := []) (lenOf pd10 rfl) rfl (by show 2 * 0 + _ ≤ _; exact Nat.le_of_eq rfl) (hb hby at_95) (fun _ _ => ⟨rfl, e163, (by decide : 1 + 0 ≤ _), (by decide : 4 + 0 ≤ _)⟩)
        dsimp only [Pt.U, Pt.locs, Pt.cells, Pt.slots] at X165 l165 y165 z165 st165 hQ165
        subst l165 y165 z165
        obtain ⟨rfl, N165q, e165⟩ := hQ165
        have N165 := Fr.app N163 N165q
        obtain ⟨T168, lc168, X168, N168, e168, st168⟩ := own_mrg (n0 := n0) (h := T158.heap) (g := (mkF m 98 #[.val (.int p0), .val (.int p1), .val (.int p2), .val (.int p3), .val (.int v2), .val (.int v4), .val .null, .val (.int v17), .val (.ref b150), .unset] [(.int (own_r8 (2147483647 : Int32) v2 v4))])) (g' := (mkF m 106 #[.val (.int p0), .val (.int p1), .val (.int p2), .val (.int p3), .val (.int v2), .val (.int v4), .val .null, .val (.int v17), .val (.ref b150), .unset] [(.int v20)])) X165 (by
          by_cases hc98_19 : (own_r8 (2147483647 : Int32) v2 v4) = (0 : Int32)
          · have hgo166 : ∀ t, Steps p.tables e below (T165.setTop (mkF m 106 #[.val (.int p0), .val (.int p1), .val (.int p2), .val (.int p3), .val (.int v2), .val (.int v4), .val .null, .val (.int v17), .val (.ref b150), .unset] [(.int (0 : Int32))])) t → Steps p.tables e below (T165.setTop (mkF m 98 #[.val (.int p0), .val (.int p1), .val (.int p2), .val (.int p3), .val (.int v2), .val (.int v4), .val .null, .val (.int v17), .val (.ref b150), .unset] [(.int (own_r8 (2147483647 : Int32) v2 v4))])) t := by
              intro t kt
              show Steps p.tables e below (T165.setTop (mkF m 98 #[.val (.int p0), .val (.int p1), .val (.int p2), .val (.int p3), .val (.int v2), .val (.int v4), .val .null, .val (.int v17), .val (.ref b150), .unset] [(.int (own_r8 (2147483647 : Int32) v2 v4))])) _
              refine XS.ifYes X165.here hx rfl (pc0 := 98) (pc' := 105) rfl (hb hby at_98) rfl ((if0 _ _).trans (teq hc98_19).1) (by decide) (by decide) ?_
              show Steps p.tables e below (T165.setTop (mkF m 105 #[.val (.int p0), .val (.int p1), .val (.int p2), .val (.int p3), .val (.int v2), .val (.int v4), .val .null, .val (.int v17), .val (.ref b150), .unset] [])) _
              refine XS.iconst X165.here hx rfl (hb hby at_105) ?_
              exact kt
            refine own_arm hgo166 ?_
            exact own_armEnd X165 N165 e165 (by rw [hv20.trans (if_pos hc98_19)])
          · have hgo167 : ∀ t, Steps p.tables e below (T165.setTop (mkF m 106 #[.val (.int p0), .val (.int p1), .val (.int p2), .val (.int p3), .val (.int v2), .val (.int v4), .val .null, .val (.int v17), .val (.ref b150), .unset] [(.int (1 : Int32))])) t → Steps p.tables e below (T165.setTop (mkF m 98 #[.val (.int p0), .val (.int p1), .val (.int p2), .val (.int p3), .val (.int v2), .val (.int v4), .val .null, .val (.int v17), .val (.ref b150), .unset] [(.int (own_r8 (2147483647 : Int32) v2 v4))])) t := by
              intro t kt
              show Steps p.tables e below (T165.setTop (mkF m 98 #[.val (.int p0), .val (.int p1), .val (.int p2), .val (.int p3), .val (.int v2), .val (.int v4), .val .null, .val (.int v17), .val (.ref b150), .unset] [(.int (own_r8 (2147483647 : Int32) v2 v4))])) _
              refine XS.ifNo X165.here hx rfl (hb hby at_98) rfl ((if0 _ _).trans (feq hc98_19).1) ?_
              show Steps p.tables e below (T165.setTop (mkF m 101 #[.val (.int p0), .val (.int p1), .val (.int p2), .val (.int p3), .val (.int v2), .val (.int v4), .val .null, .val (.int v17), .val (.ref b150), .unset] [])) _
              refine XS.iconst X165.here hx rfl (hb hby at_101) ?_
              show Steps p.tables e below (T165.setTop (mkF m 102 #[.val (.int p0), .val (.int p1), .val (.int p2), .val (.int p3), .val (.int v2), .val (.int v4), .val .null, .val (.int v17), .val (.ref b150), .unset] [(.int (1 : Int32))])) _
              refine XS.goto X165.here hx rfl (pc0 := 102) (pc' := 106) rfl (hb hby at_102) (by decide) (by decide) ?_
              exact kt
            refine own_arm hgo167 ?_
            exact own_armEnd X165 N165 e165 (by rw [hv20.trans (if_neg hc98_19)]))
        have hgo169 : ∀ t, Steps p.tables e below (T168.setTop (mkF m 106 #[.val (.int p0), .val (.int p1), .val (.int p2), .val (.int p3), .val (.int v2), .val (.int v4), .val .null, .val (.int v17), .val (.ref b150), .unset] [(.int v20)])) t → Steps p.tables e below (T163.setTop (mkF m 88 #[.val (.int p0), .val (.int p1), .val (.int p2), .val (.int p3), .val (.int v2), .val (.int v4), .val .null, .val (.int v17), .val (.ref b150), .unset] [(.int (own_r8 (0 : Int32) v2 v4))])) t := by
          intro t kt
          show Steps p.tables e below (T163.setTop (mkF m 88 #[.val (.int p0), .val (.int p1), .val (.int p2), .val (.int p3), .val (.int v2), .val (.int v4), .val .null, .val (.int v17), .val (.ref b150), .unset] [(.int (own_r8 (0 : Int32) v2 v4))])) _
          refine XS.ifNo X163.here hx rfl (hb hby at_88) rfl ((if0 _ _).trans (feq hc88_18).1) ?_
          show Steps p.tables e below (T163.setTop (mkF m 91 #[.val (.int p0), .val (.int p1), .val (.int p2), .val (.int p3), .val (.int v2), .val (.int v4), .val .null, .val (.int v17), .val (.ref b150), .unset] [])) _
          refine XS.aload X163.here hx rfl (hb hby at_91) rfl rfl ?_
          show Steps p.tables e below (T163.setTop (mkF m 93 #[.val (.int p0), .val (.int p1), .val (.int p2), .val (.int p3), .val (.int v2), .val (.int v4), .val .null, .val (.int v17), .val (.ref b150), .unset] [(.ref b150)])) _
          refine X163.ldcInt hx hown (mvT hZ (hw _ (List.mem_of_getElem? (i := 51) rfl))) (g := (mkF m 93 #[.val (.int p0), .val (.int p1), .val (.int p2), .val (.int p3), .val (.int v2), .val (.int v4), .val .null, .val (.int v17), .val (.ref b150), .unset] [(.ref b150)])) rfl (hb hby at_93) _ ?_
          show Steps p.tables e below (T163.setTop (mkF m 95 #[.val (.int p0), .val (.int p1), .val (.int p2), .val (.int p3), .val (.int v2), .val (.int v4), .val .null, .val (.int v17), .val (.ref b150), .unset] [(.int (2147483647 : Int32)), (.ref b150)])) _
          refine st165.trans ?_
          show Steps p.tables e below (T165.setTop (mkF m 98 #[.val (.int p0), .val (.int p1), .val (.int p2), .val (.int p3), .val (.int v2), .val (.int v4), .val .null, .val (.int v17), .val (.ref b150), .unset] [(.int (own_r8 (2147483647 : Int32) v2 v4))])) _
          refine st168 _ ?_
          exact kt
        refine own_arm hgo169 ?_
        exact own_armEnd X168 N168 e168 (by rw [hv21.trans (if_neg hc88_18)]))
    obtain ⟨cq171, kq171, q171a, q171b, q171c⟩ := isOf hZ e170 F158_0
    obtain ⟨_, _, ⟨T171, L171, k171, n171⟩, -, X171, ⟨Lc171, hQ171, l171, y171, z171⟩, st171⟩ := X170.virtualBack hx (y := (⟨"inducere/OrderConstraints$Constraint", "allowsAll", "()Z"⟩ : MethodName)) (z := (⟨"inducere/OrderConstraints$Constraint", "allowsAll", "()Z"⟩ : MethodName)) hown (mvT hZ (hw _ (List.mem_of_getElem? (i := 52) rfl))) (mvT hZ (hw _ (List.mem_of_getElem? (i := 53) rfl))) (notFace_of_selects (args := #[]) (mvT hZ (hw _ (List.mem_of_getElem? (i := 55) rfl)))) (mvT hZ (hw _ (List.mem_of_getElem? (i := 55) rfl))) (mvT hZ (hw _ (List.mem_of_getElem? (i := 54) rfl))) (by decide) (backOf (W := 0) (rm9 l Z a0 hw [] b150 v2 v4 (T158.heap) n0 Z161 F158_2 F158_3) hZ (hw _ (List.mem_of_getElem? (i := 56) rfl)) (hw _ (List.mem_of_getElem? (i := 28) rfl)) (by decide) (by decide)) q171a q171c (g := (mkF m 110 #[.val (.int p0), .val (.int p1), .val (.int p2), .val (.int p3), .val (.int v2), .val (.int v4), .val .null, .val (.int v17), .val (.ref b150), .val (.int v21)] [(.ref b150)])) rfl (by rw [hml]; rfl) (Steps.refl _) (argsL := []) (rest := []) (lenOf pd11 rfl) rfl (by show 2 * 0 + _ ≤ _; exact Nat.le_of_eq rfl) (hb hby at_110) (fun _ _ => ⟨rfl, e170, (by decide : 1 + 0 ≤ _), (by decide : 4 + 0 ≤ _)⟩)
    dsimp only [Pt.U, Pt.locs, Pt.cells, Pt.slots] at X171 l171 y171 z171 st171 hQ171
    subst l171 y171 z171
    obtain ⟨rfl, N171q, e171⟩ := hQ171
    have N171 := Fr.app N170 N171q
    obtain ⟨v23, hv23⟩ : ∃ z : Int32, z = (if (own_r9 v2 v4) = v21 then (1 : Int32) else (0 : Int32)) := ⟨_, rfl⟩
    obtain ⟨T174, lc174, X174, N174, e174, st174⟩ := own_mrg (n0 := n0) (h := T158.heap) (g := (mkF m 115 #[.val (.int p0), .val (.int p1), .val (.int p2), .val (.int p3), .val (.int v2), .val (.int v4), .val .null, .val (.int v17), .val (.ref b150), .val (.int v21)] [(.int v21), (.int (own_r9 v2 v4))])) (g' := (mkF m 123 #[.val (.int p0), .val (.int p1), .val (.int p2), .val (.int p3), .val (.int v2), .val (.int v4), .val .null, .val (.int v17), .val (.ref b150), .val (.int v21)] [(.int v23)])) X171 (by
      by_cases hc115_22 : (own_r9 v2 v4) = v21
      · have hgo172 : ∀ t, Steps p.tables e below (T171.setTop (mkF m 123 #[.val (.int p0), .val (.int p1), .val (.int p2), .val (.int p3), .val (.int v2), .val (.int v4), .val .null, .val (.int v17), .val (.ref b150), .val (.int v21)] [(.int (1 : Int32))])) t → Steps p.tables e below (T171.setTop (mkF m 115 #[.val (.int p0), .val (.int p1), .val (.int p2), .val (.int p3), .val (.int v2), .val (.int v4), .val .null, .val (.int v17), .val (.ref b150), .val (.int v21)] [(.int v21), (.int (own_r9 v2 v4))])) t := by
          intro t kt
          show Steps p.tables e below (T171.setTop (mkF m 115 #[.val (.int p0), .val (.int p1), .val (.int p2), .val (.int p3), .val (.int v2), .val (.int v4), .val .null, .val (.int v17), .val (.ref b150), .val (.int v21)] [(.int v21), (.int (own_r9 v2 v4))])) _
          refine XS.icmpNo X171.here hx rfl (hb hby at_115) rfl (teq hc115_22).2 ?_
          show Steps p.tables e below (T171.setTop (mkF m 118 #[.val (.int p0), .val (.int p1), .val (.int p2), .val (.int p3), .val (.int v2), .val (.int v4), .val .null, .val (.int v17), .val (.ref b150), .val (.int v21)] [])) _
          refine XS.iconst X171.here hx rfl (hb hby at_118) ?_
          show Steps p.tables e below (T171.setTop (mkF m 119 #[.val (.int p0), .val (.int p1), .val (.int p2), .val (.int p3), .val (.int v2), .val (.int v4), .val .null, .val (.int v17), .val (.ref b150), .val (.int v21)] [(.int (1 : Int32))])) _
          refine XS.goto X171.here hx rfl (pc0 := 119) (pc' := 123) rfl (hb hby at_119) (by decide) (by decide) ?_
          exact kt
        refine own_arm hgo172 ?_
        exact own_armEnd X171 N171 e171 (by rw [hv23.trans (if_pos hc115_22)])
      · have hgo173 : ∀ t, Steps p.tables e below (T171.setTop (mkF m 123 #[.val (.int p0), .val (.int p1), .val (.int p2), .val (.int p3), .val (.int v2), .val (.int v4), .val .null, .val (.int v17), .val (.ref b150), .val (.int v21)] [(.int (0 : Int32))])) t → Steps p.tables e below (T171.setTop (mkF m 115 #[.val (.int p0), .val (.int p1), .val (.int p2), .val (.int p3), .val (.int v2), .val (.int v4), .val .null, .val (.int v17), .val (.ref b150), .val (.int v21)] [(.int v21), (.int (own_r9 v2 v4))])) t := by
          intro t kt
          show Steps p.tables e below (T171.setTop (mkF m 115 #[.val (.int p0), .val (.int p1), .val (.int p2), .val (.int p3), .val (.int v2), .val (.int v4), .val .null, .val (.int v17), .val (.ref b150), .val (.int v21)] [(.int v21), (.int (own_r9 v2 v4))])) _
          refine XS.icmpYes X171.here hx rfl (pc0 := 115) (pc' := 122) rfl (hb hby at_115) rfl (feq hc115_22).2 (by decide) (by decide) ?_
          show Steps p.tables e below (T171.setTop (mkF m 122 #[.val (.int p0), .val (.int p1), .val (.int p2), .val (.int p3), .val (.int v2), .val (.int v4), .val .null, .val (.int v17), .val (.ref b150), .val (.int v21)] [])) _
          refine XS.iconst X171.here hx rfl (hb hby at_122) ?_
          exact kt
        refine own_arm hgo173 ?_
        exact own_armEnd X171 N171 e171 (by rw [hv23.trans (if_neg hc115_22)]))
    have hgo175 : ∀ t, Steps p.tables e below (T174.setTop (mkF m 123 #[.val (.int p0), .val (.int p1), .val (.int p2), .val (.int p3), .val (.int v2), .val (.int v4), .val .null, .val (.int v17), .val (.ref b150), .val (.int v21)] [(.int v23)])) t → Steps p.tables e below (T106.setTop (mkF m 33 #[.val (.int p0), .val (.int p1), .val (.int p2), .val (.int p3), .val (.int v2), .val (.int v4), .unset, .unset, .unset, .unset] [(.int (p2 &&& (4 : Int32)))])) t := by
      intro t kt
      show Steps p.tables e below (T106.setTop (mkF m 33 #[.val (.int p0), .val (.int p1), .val (.int p2), .val (.int p3), .val (.int v2), .val (.int v4), .unset, .unset, .unset, .unset] [(.int (p2 &&& (4 : Int32)))])) _
      refine XS.ifNo X106.here hx rfl (hb hby at_33) rfl ((if0 _ _).trans (feq hc33_5).1) ?_
      show Steps p.tables e below (T106.setTop (mkF m 36 #[.val (.int p0), .val (.int p1), .val (.int p2), .val (.int p3), .val (.int v2), .val (.int v4), .unset, .unset, .unset, .unset] [])) _
      refine XS.aconstNull X106.here hx rfl (hb hby at_36) ?_
      show Steps p.tables e below (T106.setTop (mkF m 37 #[.val (.int p0), .val (.int p1), .val (.int p2), .val (.int p3), .val (.int v2), .val (.int v4), .unset, .unset, .unset, .unset] [.null])) _
      refine XS.goto X106.here hx rfl (pc0 := 37) (pc' := 49) rfl (hb hby at_37) (by decide) (by decide) ?_
      show Steps p.tables e below (T106.setTop (mkF m 49 #[.val (.int p0), .val (.int p1), .val (.int p2), .val (.int p3), .val (.int v2), .val (.int v4), .unset, .unset, .unset, .unset] [.null])) _
      refine XS.astore X106.here hx rfl (hb hby at_49) rfl rfl (l' := #[.val (.int p0), .val (.int p1), .val (.int p2), .val (.int p3), .val (.int v2), .val (.int v4), .val .null, .unset, .unset, .unset]) rfl ?_
      show Steps p.tables e below (T106.setTop (mkF m 51 #[.val (.int p0), .val (.int p1), .val (.int p2), .val (.int p3), .val (.int v2), .val (.int v4), .val .null, .unset, .unset, .unset] [])) _
      refine XS.iloadN X106.here hx rfl (hb hby at_51) rfl ?_
      show Steps p.tables e below (T106.setTop (mkF m 52 #[.val (.int p0), .val (.int p1), .val (.int p2), .val (.int p3), .val (.int v2), .val (.int v4), .val .null, .unset, .unset, .unset] [(.int p2)])) _
      refine XS.bipush X106.here hx rfl (hb hby at_52) ?_
      show Steps p.tables e below (T106.setTop (mkF m 54 #[.val (.int p0), .val (.int p1), .val (.int p2), .val (.int p3), .val (.int v2), .val (.int v4), .val .null, .unset, .unset, .unset] [(.int (8 : Int32)), (.int p2)])) _
      refine XS.iand X106.here hx rfl (hb hby at_54) rfl ?_
      show Steps p.tables e below (T106.setTop (mkF m 55 #[.val (.int p0), .val (.int p1), .val (.int p2), .val (.int p3), .val (.int v2), .val (.int v4), .val .null, .unset, .unset, .unset] [(.int (p2 &&& (8 : Int32)))])) _
      refine st149 _ ?_
      show Steps p.tables e below (T149.setTop (mkF m 63 #[.val (.int p0), .val (.int p1), .val (.int p2), .val (.int p3), .val (.int v2), .val (.int v4), .val .null, .unset, .unset, .unset] [(.int v17)])) _
      refine XS.istore X149.here hx rfl (hb hby at_63) rfl (l' := #[.val (.int p0), .val (.int p1), .val (.int p2), .val (.int p3), .val (.int v2), .val (.int v4), .val .null, .val (.int v17), .unset, .unset]) rfl ?_
      show Steps p.tables e below (T149.setTop (mkF m 65 #[.val (.int p0), .val (.int p1), .val (.int p2), .val (.int p3), .val (.int v2), .val (.int v4), .val .null, .val (.int v17), .unset, .unset] [])) _
      refine st150 _ ?_
      show Steps p.tables e below (T150.setTop (mkF m 68 #[.val (.int p0), .val (.int p1), .val (.int p2), .val (.int p3), .val (.int v2), .val (.int v4), .val .null, .val (.int v17), .unset, .unset] [(.ref b150)])) _
      refine XS.dup X150.here hx rfl (hb hby at_68) rfl rfl ?_
      show Steps p.tables e below (T150.setTop (mkF m 69 #[.val (.int p0), .val (.int p1), .val (.int p2), .val (.int p3), .val (.int v2), .val (.int v4), .val .null, .val (.int v17), .unset, .unset] [(.ref b150), (.ref b150)])) _
      refine XS.aload X150.here hx rfl (hb hby at_69) rfl rfl ?_
      show Steps p.tables e below (T150.setTop (mkF m 71 #[.val (.int p0), .val (.int p1), .val (.int p2), .val (.int p3), .val (.int v2), .val (.int v4), .val .null, .val (.int v17), .unset, .unset] [.null, (.ref b150), (.ref b150)])) _
      refine XS.iload X150.here hx rfl (hb hby at_71) rfl ?_
      show Steps p.tables e below (T150.setTop (mkF m 73 #[.val (.int p0), .val (.int p1), .val (.int p2), .val (.int p3), .val (.int v2), .val (.int v4), .val .null, .val (.int v17), .unset, .unset] [(.int v2), .null, (.ref b150), (.ref b150)])) _
      refine XS.iload X150.here hx rfl (hb hby at_73) rfl ?_
      show Steps p.tables e below (T150.setTop (mkF m 75 #[.val (.int p0), .val (.int p1), .val (.int p2), .val (.int p3), .val (.int v2), .val (.int v4), .val .null, .val (.int v17), .unset, .unset] [(.int v4), (.int v2), .null, (.ref b150), (.ref b150)])) _
      refine XS.iload X150.here hx rfl (hb hby at_75) rfl ?_
      show Steps p.tables e below (T150.setTop (mkF m 77 #[.val (.int p0), .val (.int p1), .val (.int p2), .val (.int p3), .val (.int v2), .val (.int v4), .val .null, .val (.int v17), .unset, .unset] [(.int v17), (.int v4), (.int v2), .null, (.ref b150), (.ref b150)])) _
      refine st158.trans ?_
      show Steps p.tables e below (T158.setTop (mkF m 80 #[.val (.int p0), .val (.int p1), .val (.int p2), .val (.int p3), .val (.int v2), .val (.int v4), .val .null, .val (.int v17), .unset, .unset] [(.ref b150)])) _
      refine XS.astore X158.here hx rfl (hb hby at_80) rfl rfl (l' := #[.val (.int p0), .val (.int p1), .val (.int p2), .val (.int p3), .val (.int v2), .val (.int v4), .val .null, .val (.int v17), .val (.ref b150), .unset]) rfl ?_
      show Steps p.tables e below (T158.setTop (mkF m 82 #[.val (.int p0), .val (.int p1), .val (.int p2), .val (.int p3), .val (.int v2), .val (.int v4), .val .null, .val (.int v17), .val (.ref b150), .unset] [])) _
      refine XS.aload X158.here hx rfl (hb hby at_82) rfl rfl ?_
      show Steps p.tables e below (T158.setTop (mkF m 84 #[.val (.int p0), .val (.int p1), .val (.int p2), .val (.int p3), .val (.int v2), .val (.int v4), .val .null, .val (.int v17), .val (.ref b150), .unset] [(.ref b150)])) _
      refine XS.iconst X158.here hx rfl (hb hby at_84) ?_
      show Steps p.tables e below (T158.setTop (mkF m 85 #[.val (.int p0), .val (.int p1), .val (.int p2), .val (.int p3), .val (.int v2), .val (.int v4), .val .null, .val (.int v17), .val (.ref b150), .unset] [(.int (0 : Int32)), (.ref b150)])) _
      refine st163.trans ?_
      show Steps p.tables e below (T163.setTop (mkF m 88 #[.val (.int p0), .val (.int p1), .val (.int p2), .val (.int p3), .val (.int v2), .val (.int v4), .val .null, .val (.int v17), .val (.ref b150), .unset] [(.int (own_r8 (0 : Int32) v2 v4))])) _
      refine st170 _ ?_
      show Steps p.tables e below (T170.setTop (mkF m 106 #[.val (.int p0), .val (.int p1), .val (.int p2), .val (.int p3), .val (.int v2), .val (.int v4), .val .null, .val (.int v17), .val (.ref b150), .unset] [(.int v21)])) _
      refine XS.istore X170.here hx rfl (hb hby at_106) rfl (l' := #[.val (.int p0), .val (.int p1), .val (.int p2), .val (.int p3), .val (.int v2), .val (.int v4), .val .null, .val (.int v17), .val (.ref b150), .val (.int v21)]) rfl ?_
      show Steps p.tables e below (T170.setTop (mkF m 108 #[.val (.int p0), .val (.int p1), .val (.int p2), .val (.int p3), .val (.int v2), .val (.int v4), .val .null, .val (.int v17), .val (.ref b150), .val (.int v21)] [])) _
      refine XS.aload X170.here hx rfl (hb hby at_108) rfl rfl ?_
      show Steps p.tables e below (T170.setTop (mkF m 110 #[.val (.int p0), .val (.int p1), .val (.int p2), .val (.int p3), .val (.int v2), .val (.int v4), .val .null, .val (.int v17), .val (.ref b150), .val (.int v21)] [(.ref b150)])) _
      refine st171.trans ?_
      show Steps p.tables e below (T171.setTop (mkF m 113 #[.val (.int p0), .val (.int p1), .val (.int p2), .val (.int p3), .val (.int v2), .val (.int v4), .val .null, .val (.int v17), .val (.ref b150), .val (.int v21)] [(.int (own_r9 v2 v4))])) _
      refine XS.iload X171.here hx rfl (hb hby at_113) rfl ?_
      show Steps p.tables e below (T171.setTop (mkF m 115 #[.val (.int p0), .val (.int p1), .val (.int p2), .val (.int p3), .val (.int v2), .val (.int v4), .val .null, .val (.int v17), .val (.ref b150), .val (.int v21)] [(.int v21), (.int (own_r9 v2 v4))])) _
      refine st174 _ ?_
      exact kt
    refine own_go hgo175 ?_
    have hz176 : v23 = 1 := own_leaf1 (p0 := p0) (p1 := p1) (p2 := p2) (p3 := p3) (ucs := ucs) hv2 hv4 hv17 hv20 hv21 hv23 hc33_5
    exact own_retZ X174 hx Bd.returns Bd.notSynchronized (hb hby at_123) (by decide) (by decide) (Or.inr hz176) ⟨by rw [hz176], N174⟩
set_option maxRecDepth 65536 in
set_option maxHeartbeats 40000000 in
theorem comes_1 {Post : Tables → Env → Array Value → State → Outcome → State → Prop} (hpost : ∀ tb e args s v u, (limb_1_1.after args s (.returned v) u = true ∧ limb_1_2.after args s (.returned v) u = true ∧ True) → FrameEnd s (.returned v) u (Jvm.fieldLocs frame_1_writes args s ++ Jvm.arrayLocs frame_1_arrays args s ++ Jvm.staticLocs frame_1_statics s) 16 128 → Post tb e args s (.returned v) u) :
    ArmFor flags0 classFile x code maxLocals ret World_1 tables_1 room_1 Calls_1 rest_1 Pre_1 Post := by
  intro l hfl _ _ p e ha hc hk s m args below hf hA hF happ hP
  obtain ⟨hcalls, hrest, hpre⟩ := hP
  obtain ⟨-, -, -, hnamed, -, -, -, hat⟩ := (Spec.applies_iff hf).mp happ
  obtain ⟨hg, hn⟩ := and_e (Cond.before_iff.mp (show (Jvm.Cond.and given_1 narrow_1).before args s = true from hpre))
  obtain ⟨gg1, gg2⟩ := and_e hg
  obtain ⟨gg3, gg4⟩ := and_e gg2
  obtain ⟨gg5, gg6⟩ := and_e gg4
  obtain ⟨gg7, gg8⟩ := and_e gg6
  obtain ⟨w0, w1, w2, w3, rfl⟩ : ∃ w0 w1 w2 w3 : Value, args = #[w0, w1, w2, w3] := by
    have hs : args.size = 4 := by simpa [Cond.value, given_1] using gg1
    obtain ⟨L⟩ := args
    match L, hs with
    | [w0, w1, w2, w3], _ => exact ⟨w0, w1, w2, w3, rfl⟩
  have hw := fun d (hd : d ∈ tables_1) => atoms_spec (ws := Jvm.Cond.code x code maxLocals ret :: tables_1) hat d (List.mem_cons_of_mem _ hd)
  have hfit : Fit s := fun {y c} hc i hi => by
    obtain ⟨ha, rfl⟩ := Array.getElem?_eq_some_iff.mp hc
    have q := List.all_eq_true.mp ((Array.all_eq_true_iff_forall_mem.mp hF) _ (Array.getElem_mem ha)) i (List.mem_range.mpr hi)
    simpa [Array.getElem?_eq_getElem hi] using q
  obtain ⟨hsets, hown0⟩ := atoms_of _ (rest_1_c_eq ▸ (show rest_1_c.before _ s = true from hrest))
  have hr0 := Cond.before_iff.mp hown0
  obtain ⟨i0, ei0⟩ := is_v gg3
  obtain rfl : w0 = (.int i0) := Option.some.inj ei0
  obtain ⟨i1, ei1⟩ := is_v gg5
  obtain rfl : w1 = (.int i1) := Option.some.inj ei1
  obtain ⟨i2, ei2⟩ := is_v gg7
  obtain rfl : w2 = (.int i2) := Option.some.inj ei2
  obtain ⟨i3, ei3⟩ := is_v gg8
  obtain rfl : w3 = (.int i3) := Option.some.inj ei3
  obtain ⟨ucs, eucs⟩ := is_v (Cond.before_iff.mp (hsets _ (List.mem_of_getElem? (i := 1) rfl)))
  obtain ⟨n, o, h1, h2, h3, _, L, rfl, ⟨rfl, N⟩, hq⟩ := rm0 l s _ hw tables_1 i0 i1 i2 i3 ucs s.heap s.heap.size (Nat.le_refl _) (Sta.start eucs (Or.inl (hsets _ (List.mem_of_getElem? (i := 0) rfl)))) (own_neI eucs (Cond.before_iff.mp (hsets _ (List.mem_of_getElem? (i := 2) rfl)))) p e ha hc hk s m _ below hf ((Spec.applies_iff_loose hf).mp happ).1 ⟨rfl, State.Warmed39.refl s, rfl⟩ trivial
  refine ⟨n, _, h1, h2, h3, hpost _ _ _ _ _ _ ⟨Cond.after_iff.mpr rfl, Cond.after_iff.mpr (eq_i res_at (Term.int_eval (1)) rfl), trivial⟩ ⟨hq.1, hq.2.1, (hq.2.2.sift fun y hy => Or.inr (N y hy)).mono (by decide) (by decide)⟩⟩
theorem main_1_1 : Claimed_1_1 := comes_1 fun _ _ _ _ _ _ h hF => ⟨h.1, hF⟩
theorem main_1_2 : Claimed_1_2 := comes_1 fun _ _ _ _ _ _ h hF => ⟨h.2.1, hF⟩
end Jvm.Pilot.@@N@@
namespace Jvm.Pilot.@@N@@
open Jvm Jvm.ClassFile Sem Op Lib Jvm.Free Jvm.Stand Jvm.Pilot.@@N@@.Jvm.D
/-! MADE BY PROGRAM (witnessworld.py) out of the Statement's table words and the real class files: 18 classes; the members and pool entries that the words name. The judged class is class 1, her method 1. -/
namespace start1
open Jvm.ClassFile
def u (s : String) : CpInfo := .utf8 (stringToUtf16 s)
/-- a pool by its gaps: so many unusable entries, then the entry; so many at the end -/
def gap : Nat → List CpInfo → List CpInfo
  | 0, r => r
  | n + 1, r => .unusable :: gap n r
def poolList (es : List (Nat × CpInfo)) (last : Nat) : List CpInfo := es.foldr (fun e r => gap e.1 (e.2 :: r)) (gap last [])
def pool (es : List (Nat × CpInfo)) (last : Nat) : Array CpInfo := ⟨poolList es last⟩
def fileOf (pool : Array CpInfo) (this : Nat) (attrs : Array Attribute := #[]) (ms : Array MethodInfo := #[]) (fl : Nat := 33) (sup : Nat := 0) (ifs : Array Nat := #[]) (fds : Array FieldInfo := #[]) : ClassFile where
  minorVersion := 0
  majorVersion := 65
  constantPool := pool
  accessFlags := fl
  thisClass := this
  superClass := sup
  interfaces := ifs
  fields := fds
  methods := ms
  attributes := attrs
def plain (name : String) (sup : Option ClassId) : Class where
  name := name
  kind := .ordinary
  loader := none
  accessFlags := 33
  super := sup
  interfaces := #[]
  cf := none
  fields := #[]
  methods := #[]
  instanceTypes := #[]
  staticTypes := #[]
  resolved := #[]
  callSites := []
  init := .initialized
  statics := none
  mirror := none

def pool0 : Array CpInfo := pool [(5, u "<init>"), (0, u "()V"), (1, .class_ 10), (1, u "java/lang/Object")] 113

def k0c0 : Code := { maxStack := 0, maxLocals := 1, code := object_method_1_code, exceptionTable := #[], attributes := #[] }
def k0m0 : Method := { name := "<init>", desc := "()V", sig := { parameters := [], returnType := none }, accessFlags := 1, code := some k0c0 }
/-- java/lang/Object -/
def k0 : Class := { plain "java/lang/Object" none with
  accessFlags := 33
  interfaces := #[]
  cf := some (fileOf pool0 8 #[] #[{ accessFlags := 1, nameIndex := 5, descriptorIndex := 6, attributes := #[] }] 33 0 #[] #[])
  fields := #[]
  methods := #[k0m0]
  instanceTypes := #[]
  staticTypes := #[]
  resolved := Array.replicate 124 none
  statics := none }

def pool1 : Array CpInfo := pool [(2, .class_ 4), (1, u "java/lang/Object"), (0, u "<init>"), (0, u "()V"), (0, .integer 2147483647), (2, .methodref 11 12), (0, .class_ 13), (0, .nameAndType 14 15), (0, u "java/lang/String"), (0, u "valueOf"), (0, u "(C)Ljava/lang/String;"), (0, .class_ 17), (0, u "inducere/OrderConstraints$Constraint"), (0, .methodref 16 19), (0, .nameAndType 5 20), (0, u "(Ljava/lang/String;IIZ)V"), (0, .methodref 16 22), (0, .nameAndType 23 24), (0, u "holds"), (0, u "(I)Z"), (0, .methodref 16 26), (0, .nameAndType 27 28), (0, u "allowsAll"), (0, u "()Z"), (0, .class_ 30), (0, u "inducere/ConstraintAllowsAllPinLaw"), (2, u "law"), (0, u "(IIII)Z")] 7

def k1m0 : Method := { name := "<init>", desc := "()V", sig := { parameters := [], returnType := none }, accessFlags := 1, code := none }
def k1c1 : Code := { maxStack := 6, maxLocals := 10, code := code, exceptionTable := #[], attributes := #[] }
def k1m1 : Method := { name := "law", desc := "(IIII)Z", sig := { parameters := [.int, .int, .int, .int], returnType := some .boolean }, accessFlags := 9, code := some k1c1 }
/-- inducere/ConstraintAllowsAllPinLaw -/
def k1 : Class := { plain "inducere/ConstraintAllowsAllPinLaw" (some 0) with
  accessFlags := 49
  interfaces := #[]
  cf := some (fileOf pool1 29 #[] #[{ accessFlags := 1, nameIndex := 5, descriptorIndex := 6, attributes := #[] }, { accessFlags := 9, nameIndex := 33, descriptorIndex := 34, attributes := #[] }] 49 2 #[] #[])
  fields := #[]
  methods := #[k1m0, k1m1]
  instanceTypes := #[]
  staticTypes := #[]
  resolved := Array.replicate 42 none
  statics := none }

def pool2 : Array CpInfo := pool [(1, .class_ 2), (0, u "java/io/Serializable"), (0, .class_ 4), (0, u "java/lang/Object")] 2

/-- java/io/Serializable -/
def k2 : Class := { plain "java/io/Serializable" (some 0) with
  accessFlags := 1537
  interfaces := #[]
  cf := some (fileOf pool2 1 #[] #[] 1537 3 #[] #[])
  fields := #[]
  methods := #[]
  instanceTypes := #[]
  staticTypes := #[]
  resolved := Array.replicate 7 none
  statics := none }

def pool3 : Array CpInfo := pool [(1, .class_ 2), (0, u "java/lang/Comparable"), (0, .class_ 4), (0, u "java/lang/Object")] 7

/-- java/lang/Comparable -/
def k3 : Class := { plain "java/lang/Comparable" (some 0) with
  accessFlags := 1537
  interfaces := #[]
  cf := some (fileOf pool3 1 #[] #[] 1537 3 #[] #[])
  fields := #[]
  methods := #[]
  instanceTypes := #[]
  staticTypes := #[]
  resolved := Array.replicate 12 none
  statics := none }

def pool4 : Array CpInfo := pool [(2, .class_ 4), (1, u "java/lang/CharSequence"), (42, .class_ 48), (0, u "java/lang/CharSequence$1CodePointIterator"), (10, .class_ 60), (0, u "java/lang/CharSequence$1CharIterator"), (5, .class_ 67), (0, u "java/lang/Object")] 63

/-- java/lang/CharSequence -/
def k4 : Class := { plain "java/lang/CharSequence" (some 0) with
  accessFlags := 1537
  interfaces := #[]
  cf := some (fileOf pool4 2 #[.nestMembers #[47, 59]] #[] 1537 66 #[] #[])
  fields := #[]
  methods := #[]
  instanceTypes := #[]
  staticTypes := #[]
  resolved := Array.replicate 131 none
  statics := none }

def pool5 : Array CpInfo := pool [(1, .class_ 2), (0, u "java/lang/constant/Constable"), (0, .class_ 4), (0, u "java/lang/Object")] 6

/-- java/lang/constant/Constable -/
def k5 : Class := { plain "java/lang/constant/Constable" (some 0) with
  accessFlags := 1537
  interfaces := #[]
  cf := some (fileOf pool5 1 #[] #[] 1537 3 #[] #[])
  fields := #[]
  methods := #[]
  instanceTypes := #[]
  staticTypes := #[]
  resolved := Array.replicate 11 none
  statics := none }

def pool6 : Array CpInfo := pool [(1, .class_ 2), (0, u "java/lang/constant/ConstantDesc"), (0, .class_ 4), (0, u "java/lang/Object")] 32

/-- java/lang/constant/ConstantDesc -/
def k6 : Class := { plain "java/lang/constant/ConstantDesc" (some 0) with
  accessFlags := 1537
  interfaces := #[]
  cf := some (fileOf pool6 1 #[] #[] 1537 3 #[] #[])
  fields := #[]
  methods := #[]
  instanceTypes := #[]
  staticTypes := #[]
  resolved := Array.replicate 37 none
  statics := none }

def pool7 : Array CpInfo := pool [(1, .methodref 2 3), (0, .class_ 4), (0, .nameAndType 5 6), (0, u "java/lang/Object"), (0, u "<init>"), (0, u "()V"), (2, .fieldref 10 11), (0, .class_ 12), (0, .nameAndType 13 14), (0, u "java/lang/String"), (0, u "value"), (0, u "[B"), (0, .fieldref 10 16), (0, .nameAndType 17 18), (0, u "coder"), (0, u "B"), (2, u "hash"), (0, u "I"), (2, u "hashIsZero"), (0, u "Z"), (11, .fieldref 10 39), (0, .nameAndType 40 26), (0, u "COMPACT_STRINGS"), (12, u "toBytes"), (53, .class_ 109), (1, u "java/lang/StringLatin1"), (99, .methodref 10 210), (0, .nameAndType 5 211), (0, u "([BB)V"), (157, u "(C)Z"), (205, .class_ 576), (0, u "java/lang/CharSequence"), (22, u "CASE_INSENSITIVE_ORDER"), (0, u "Ljava/util/Comparator;"), (181, u "valueOf"), (0, u "(C)Ljava/lang/String;"), (231, .methodref 107 1016), (0, .nameAndType 1017 369), (0, u "canEncode"), (0, .methodref 107 1019), (0, .nameAndType 53 1020), (0, u "(C)[B"), (80, u "serialPersistentFields"), (0, u "[Ljava/io/ObjectStreamField;"), (0, .class_ 1104), (0, u "java/lang/String$CaseInsensitiveComparator"), (1, .class_ 1107), (0, u "java/io/Serializable"), (0, .class_ 1109), (0, u "java/lang/Comparable"), (0, .class_ 1111), (0, u "java/lang/constant/Constable"), (0, .class_ 1113), (0, u "java/lang/constant/ConstantDesc"), (2, u "serialVersionUID"), (0, u "J"), (3, u "REPL"), (0, u "C"), (2, u "LATIN1"), (1, u "UTF16")] 323

def k7m0 : Method := { name := "<init>", desc := "()V", sig := { parameters := [], returnType := none }, accessFlags := 1, code := none }
def k7c1 : Code := { maxStack := 4, maxLocals := 1, code := jdk_42_method_139_code, exceptionTable := #[], attributes := #[] }
def k7m1 : Method := { name := "valueOf", desc := "(C)Ljava/lang/String;", sig := { parameters := [.char], returnType := some (.object "java/lang/String") }, accessFlags := 9, code := some k7c1 }
def k7c2 : Code := { maxStack := 2, maxLocals := 3, code := jdk_42_method_151_code, exceptionTable := #[], attributes := #[] }
def k7m2 : Method := { name := "<init>", desc := "([BB)V", sig := { parameters := [(.array .byte), .byte], returnType := none }, accessFlags := 0, code := some k7c2 }
/-- java/lang/String -/
def k7 : Class := { plain "java/lang/String" (some 0) with
  accessFlags := 49
  interfaces := #[2, 3, 4, 5, 6]
  cf := some (fileOf pool7 10 #[.nestMembers #[1103]] #[{ accessFlags := 1, nameIndex := 5, descriptorIndex := 6, attributes := #[] }, { accessFlags := 9, nameIndex := 782, descriptorIndex := 783, attributes := #[] }, { accessFlags := 0, nameIndex := 5, descriptorIndex := 211, attributes := #[] }] 49 2 #[1106, 1108, 575, 1110, 1112] #[{ accessFlags := 18, nameIndex := 13, descriptorIndex := 14, attributes := #[] }, { accessFlags := 18, nameIndex := 17, descriptorIndex := 18, attributes := #[] }, { accessFlags := 2, nameIndex := 21, descriptorIndex := 22, attributes := #[] }, { accessFlags := 2, nameIndex := 25, descriptorIndex := 26, attributes := #[] }, { accessFlags := 26, nameIndex := 1116, descriptorIndex := 1117, attributes := #[] }, { accessFlags := 24, nameIndex := 40, descriptorIndex := 26, attributes := #[] }, { accessFlags := 26, nameIndex := 1101, descriptorIndex := 1102, attributes := #[] }, { accessFlags := 26, nameIndex := 1121, descriptorIndex := 1122, attributes := #[] }, { accessFlags := 25, nameIndex := 599, descriptorIndex := 600, attributes := #[] }, { accessFlags := 24, nameIndex := 1125, descriptorIndex := 18, attributes := #[] }, { accessFlags := 24, nameIndex := 1127, descriptorIndex := 18, attributes := #[] }])
  fields := #[{ name := "value", type := (.array .byte), accessFlags := 18, slot := 0, constantValue := 0 }, { name := "coder", type := .byte, accessFlags := 18, slot := 1, constantValue := 0 }, { name := "hash", type := .int, accessFlags := 2, slot := 2, constantValue := 0 }, { name := "hashIsZero", type := .boolean, accessFlags := 2, slot := 3, constantValue := 0 }, { name := "serialVersionUID", type := .long, accessFlags := 26, slot := 0, constantValue := 0 }, { name := "COMPACT_STRINGS", type := .boolean, accessFlags := 24, slot := 1, constantValue := 0 }, { name := "serialPersistentFields", type := (.array (.object "java/io/ObjectStreamField")), accessFlags := 26, slot := 2, constantValue := 0 }, { name := "REPL", type := .char, accessFlags := 26, slot := 3, constantValue := 0 }, { name := "CASE_INSENSITIVE_ORDER", type := (.object "java/util/Comparator"), accessFlags := 25, slot := 4, constantValue := 0 }, { name := "LATIN1", type := .byte, accessFlags := 24, slot := 5, constantValue := 0 }, { name := "UTF16", type := .byte, accessFlags := 24, slot := 6, constantValue := 0 }]
  methods := #[k7m0, k7m1, k7m2]
  instanceTypes := #[(.array .byte), .byte, .int, .boolean]
  staticTypes := #[.long, .boolean, (.array (.object "java/io/ObjectStreamField")), .char, (.object "java/util/Comparator"), .byte, .byte]
  resolved := Array.replicate 1451 none
  statics := some 0 }

def pool8 : Array CpInfo := pool [(4, .class_ 6), (1, u "java/lang/Object"), (0, u "<init>"), (0, u "()V"), (5, .class_ 16), (1, u "java/lang/StringLatin1"), (73, u "canEncode"), (14, u "(C)Z"), (15, u "$assertionsDisabled"), (0, u "Z"), (98, .class_ 223), (1, u "java/lang/StringLatin1$LinesSpliterator"), (156, u "toBytes"), (1, u "(C)[B"), (7, .class_ 391), (0, u "java/lang/StringLatin1$CharsSpliterator")] 3

def k8m0 : Method := { name := "<init>", desc := "()V", sig := { parameters := [], returnType := none }, accessFlags := 0, code := none }
def k8c1 : Code := { maxStack := 2, maxLocals := 1, code := jdk_43_method_3_code, exceptionTable := #[], attributes := #[] }
def k8m1 : Method := { name := "canEncode", desc := "(C)Z", sig := { parameters := [.char], returnType := some .boolean }, accessFlags := 9, code := some k8c1 }
def k8c2 : Code := { maxStack := 4, maxLocals := 1, code := jdk_43_method_46_code, exceptionTable := #[], attributes := #[] }
def k8m2 : Method := { name := "toBytes", desc := "(C)[B", sig := { parameters := [.char], returnType := some (.array .byte) }, accessFlags := 9, code := some k8c2 }
/-- java/lang/StringLatin1 -/
def k8 : Class := { plain "java/lang/StringLatin1" (some 0) with
  accessFlags := 48
  interfaces := #[]
  cf := some (fileOf pool8 14 #[.nestMembers #[390, 221]] #[{ accessFlags := 0, nameIndex := 7, descriptorIndex := 8, attributes := #[] }, { accessFlags := 9, nameIndex := 90, descriptorIndex := 105, attributes := #[] }, { accessFlags := 9, nameIndex := 380, descriptorIndex := 382, attributes := #[] }] 48 4 #[] #[{ accessFlags := 4120, nameIndex := 121, descriptorIndex := 122, attributes := #[] }])
  fields := #[{ name := "$assertionsDisabled", type := .boolean, accessFlags := 4120, slot := 0, constantValue := 0 }]
  methods := #[k8m0, k8m1, k8m2]
  instanceTypes := #[]
  staticTypes := #[.boolean]
  resolved := Array.replicate 395 none
  statics := none }

def pool9 : Array CpInfo := pool [(1, .methodref 2 3), (0, .class_ 4), (0, .nameAndType 5 6), (0, u "java/lang/Object"), (0, u "<init>"), (0, u "()V"), (0, .class_ 8), (0, u "java/lang/Record")] 13

def k9c0 : Code := { maxStack := 1, maxLocals := 1, code := jdk_30_method_1_code, exceptionTable := #[], attributes := #[] }
def k9m0 : Method := { name := "<init>", desc := "()V", sig := { parameters := [], returnType := none }, accessFlags := 4, code := some k9c0 }
/-- java/lang/Record -/
def k9 : Class := { plain "java/lang/Record" (some 0) with
  accessFlags := 1057
  interfaces := #[]
  cf := some (fileOf pool9 7 #[] #[{ accessFlags := 4, nameIndex := 5, descriptorIndex := 6, attributes := #[] }] 1057 2 #[] #[])
  fields := #[]
  methods := #[k9m0]
  instanceTypes := #[]
  staticTypes := #[]
  resolved := Array.replicate 22 none
  statics := none }

def pool10 : Array CpInfo := pool [(1, .class_ 2), (0, u "inducere/OrderConstraints"), (0, .methodref 4 5), (0, .class_ 6), (0, .nameAndType 7 8), (0, u "java/lang/Record"), (0, u "<init>"), (0, u "()V"), (0, .fieldref 10 11), (0, .class_ 12), (0, .nameAndType 13 14), (0, u "inducere/OrderConstraints$Constraint"), (0, u "relation"), (0, u "Ljava/lang/String;"), (0, .fieldref 10 16), (0, .nameAndType 17 18), (0, u "min"), (0, u "I"), (0, .fieldref 10 20), (0, .nameAndType 21 18), (0, u "max"), (0, .fieldref 10 23), (0, .nameAndType 24 25), (0, u "bounded"), (0, u "Z"), (9, u "(Ljava/lang/String;IIZ)V"), (0, .integer 2147483647), (26, u "holds"), (0, u "(I)Z"), (6, u "()Z"), (0, u "allowsAll")] 43

def k10c0 : Code := { maxStack := 2, maxLocals := 5, code := prog_75_method_1_code, exceptionTable := #[], attributes := #[] }
def k10m0 : Method := { name := "<init>", desc := "(Ljava/lang/String;IIZ)V", sig := { parameters := [(.object "java/lang/String"), .int, .int, .boolean], returnType := none }, accessFlags := 0, code := some k10c0 }
def k10c1 : Code := { maxStack := 2, maxLocals := 2, code := prog_75_method_2_code, exceptionTable := #[], attributes := #[] }
def k10m1 : Method := { name := "holds", desc := "(I)Z", sig := { parameters := [.int], returnType := some .boolean }, accessFlags := 0, code := some k10c1 }
def k10c2 : Code := { maxStack := 2, maxLocals := 1, code := prog_75_method_5_code, exceptionTable := #[], attributes := #[] }
def k10m2 : Method := { name := "allowsAll", desc := "()Z", sig := { parameters := [], returnType := some .boolean }, accessFlags := 0, code := some k10c2 }
/-- inducere/OrderConstraints$Constraint -/
def k10 : Class := { plain "inducere/OrderConstraints$Constraint" (some 9) with
  accessFlags := 48
  interfaces := #[]
  cf := some (fileOf pool10 10 #[.nestHost 1] #[{ accessFlags := 0, nameIndex := 7, descriptorIndex := 35, attributes := #[] }, { accessFlags := 0, nameIndex := 63, descriptorIndex := 64, attributes := #[] }, { accessFlags := 0, nameIndex := 72, descriptorIndex := 71, attributes := #[] }] 48 4 #[] #[{ accessFlags := 18, nameIndex := 13, descriptorIndex := 14, attributes := #[] }, { accessFlags := 18, nameIndex := 17, descriptorIndex := 18, attributes := #[] }, { accessFlags := 18, nameIndex := 21, descriptorIndex := 18, attributes := #[] }, { accessFlags := 18, nameIndex := 24, descriptorIndex := 25, attributes := #[] }])
  fields := #[{ name := "relation", type := (.object "java/lang/String"), accessFlags := 18, slot := 0, constantValue := 0 }, { name := "min", type := .int, accessFlags := 18, slot := 1, constantValue := 0 }, { name := "max", type := .int, accessFlags := 18, slot := 2, constantValue := 0 }, { name := "bounded", type := .boolean, accessFlags := 18, slot := 3, constantValue := 0 }]
  methods := #[k10m0, k10m1, k10m2]
  instanceTypes := #[(.object "java/lang/String"), .int, .int, .boolean]
  staticTypes := #[]
  resolved := Array.replicate 116 none
  statics := none }

def pool11 : Array CpInfo := pool [(2, .class_ 4), (1, u "java/lang/Object"), (0, u "<init>"), (0, u "()V"), (17, .class_ 26), (1, u "jdk/internal/util/Preconditions"), (28, .class_ 56), (0, u "jdk/internal/util/Preconditions$4"), (57, .class_ 115), (0, u "jdk/internal/util/Preconditions$1"), (7, u "SIOOBE_FORMATTER"), (0, u "Ljava/util/function/BiFunction;"), (0, .class_ 126), (0, u "jdk/internal/util/Preconditions$2"), (3, u "AIOOBE_FORMATTER"), (0, .class_ 132), (0, u "jdk/internal/util/Preconditions$3"), (3, u "IOOBE_FORMATTER")] 57

def k11m0 : Method := { name := "<init>", desc := "()V", sig := { parameters := [], returnType := none }, accessFlags := 1, code := none }
/-- jdk/internal/util/Preconditions -/
def k11 : Class := { plain "jdk/internal/util/Preconditions" (some 0) with
  accessFlags := 33
  interfaces := #[]
  cf := some (fileOf pool11 24 #[.nestMembers #[55, 131, 125, 114]] #[{ accessFlags := 1, nameIndex := 5, descriptorIndex := 6, attributes := #[] }] 33 2 #[] #[{ accessFlags := 25, nameIndex := 123, descriptorIndex := 124, attributes := #[] }, { accessFlags := 25, nameIndex := 130, descriptorIndex := 124, attributes := #[] }, { accessFlags := 25, nameIndex := 136, descriptorIndex := 124, attributes := #[] }])
  fields := #[{ name := "SIOOBE_FORMATTER", type := (.object "java/util/function/BiFunction"), accessFlags := 25, slot := 0, constantValue := 0 }, { name := "AIOOBE_FORMATTER", type := (.object "java/util/function/BiFunction"), accessFlags := 25, slot := 1, constantValue := 0 }, { name := "IOOBE_FORMATTER", type := (.object "java/util/function/BiFunction"), accessFlags := 25, slot := 2, constantValue := 0 }]
  methods := #[k11m0]
  instanceTypes := #[]
  staticTypes := #[(.object "java/util/function/BiFunction"), (.object "java/util/function/BiFunction"), (.object "java/util/function/BiFunction")]
  resolved := Array.replicate 194 none
  statics := some 1 }

def pool12 : Array CpInfo := pool [(9, u "<init>"), (6, .class_ 18), (1, u "java/lang/Object"), (0, u "()V"), (1, .class_ 23), (1, u "jdk/internal/util/ArraysSupport"), (0, u "LOG2_ARRAY_LONG_INDEX_SCALE"), (0, u "I"), (2, u "U"), (0, u "Ljdk/internal/misc/Unsafe;"), (8, u "BIG_ENDIAN"), (0, u "Z"), (8, u "LOG2_BYTE_BIT_SIZE"), (4, u "LOG2_ARRAY_INT_INDEX_SCALE"), (54, u "JLA"), (0, u "Ljdk/internal/access/JavaLangAccess;"), (11, u "LOG2_ARRAY_BOOLEAN_INDEX_SCALE"), (9, u "LOG2_ARRAY_BYTE_INDEX_SCALE"), (5, u "LOG2_ARRAY_CHAR_INDEX_SCALE"), (5, u "LOG2_ARRAY_SHORT_INDEX_SCALE"), (18, u "LOG2_ARRAY_FLOAT_INDEX_SCALE"), (24, u "LOG2_ARRAY_DOUBLE_INDEX_SCALE"), (89, u "T_BOOLEAN"), (2, u "T_CHAR"), (1, u "T_FLOAT"), (1, u "T_DOUBLE"), (1, u "T_BYTE"), (1, u "T_SHORT"), (1, u "T_INT"), (1, u "T_LONG"), (1, u "SOFT_MAX_ARRAY_LENGTH")] 83

def k12m0 : Method := { name := "<init>", desc := "()V", sig := { parameters := [], returnType := none }, accessFlags := 2, code := none }
/-- jdk/internal/util/ArraysSupport -/
def k12 : Class := { plain "jdk/internal/util/ArraysSupport" (some 0) with
  accessFlags := 33
  interfaces := #[]
  cf := some (fileOf pool12 21 #[] #[{ accessFlags := 2, nameIndex := 9, descriptorIndex := 19, attributes := #[] }] 33 16 #[] #[{ accessFlags := 24, nameIndex := 28, descriptorIndex := 29, attributes := #[] }, { accessFlags := 26, nameIndex := 38, descriptorIndex := 39, attributes := #[] }, { accessFlags := 25, nameIndex := 121, descriptorIndex := 25, attributes := #[] }, { accessFlags := 25, nameIndex := 131, descriptorIndex := 25, attributes := #[] }, { accessFlags := 25, nameIndex := 137, descriptorIndex := 25, attributes := #[] }, { accessFlags := 25, nameIndex := 143, descriptorIndex := 25, attributes := #[] }, { accessFlags := 25, nameIndex := 53, descriptorIndex := 25, attributes := #[] }, { accessFlags := 25, nameIndex := 24, descriptorIndex := 25, attributes := #[] }, { accessFlags := 25, nameIndex := 162, descriptorIndex := 25, attributes := #[] }, { accessFlags := 25, nameIndex := 187, descriptorIndex := 25, attributes := #[] }, { accessFlags := 26, nameIndex := 48, descriptorIndex := 25, attributes := #[] }, { accessFlags := 25, nameIndex := 277, descriptorIndex := 25, attributes := #[] }, { accessFlags := 25, nameIndex := 280, descriptorIndex := 25, attributes := #[] }, { accessFlags := 25, nameIndex := 282, descriptorIndex := 25, attributes := #[] }, { accessFlags := 25, nameIndex := 284, descriptorIndex := 25, attributes := #[] }, { accessFlags := 25, nameIndex := 286, descriptorIndex := 25, attributes := #[] }, { accessFlags := 25, nameIndex := 288, descriptorIndex := 25, attributes := #[] }, { accessFlags := 25, nameIndex := 290, descriptorIndex := 25, attributes := #[] }, { accessFlags := 25, nameIndex := 292, descriptorIndex := 25, attributes := #[] }, { accessFlags := 26, nameIndex := 108, descriptorIndex := 109, attributes := #[] }, { accessFlags := 25, nameIndex := 294, descriptorIndex := 25, attributes := #[] }])
  fields := #[{ name := "U", type := (.object "jdk/internal/misc/Unsafe"), accessFlags := 24, slot := 0, constantValue := 0 }, { name := "BIG_ENDIAN", type := .boolean, accessFlags := 26, slot := 1, constantValue := 0 }, { name := "LOG2_ARRAY_BOOLEAN_INDEX_SCALE", type := .int, accessFlags := 25, slot := 2, constantValue := 0 }, { name := "LOG2_ARRAY_BYTE_INDEX_SCALE", type := .int, accessFlags := 25, slot := 3, constantValue := 0 }, { name := "LOG2_ARRAY_CHAR_INDEX_SCALE", type := .int, accessFlags := 25, slot := 4, constantValue := 0 }, { name := "LOG2_ARRAY_SHORT_INDEX_SCALE", type := .int, accessFlags := 25, slot := 5, constantValue := 0 }, { name := "LOG2_ARRAY_INT_INDEX_SCALE", type := .int, accessFlags := 25, slot := 6, constantValue := 0 }, { name := "LOG2_ARRAY_LONG_INDEX_SCALE", type := .int, accessFlags := 25, slot := 7, constantValue := 0 }, { name := "LOG2_ARRAY_FLOAT_INDEX_SCALE", type := .int, accessFlags := 25, slot := 8, constantValue := 0 }, { name := "LOG2_ARRAY_DOUBLE_INDEX_SCALE", type := .int, accessFlags := 25, slot := 9, constantValue := 0 }, { name := "LOG2_BYTE_BIT_SIZE", type := .int, accessFlags := 26, slot := 10, constantValue := 0 }, { name := "T_BOOLEAN", type := .int, accessFlags := 25, slot := 11, constantValue := 0 }, { name := "T_CHAR", type := .int, accessFlags := 25, slot := 12, constantValue := 0 }, { name := "T_FLOAT", type := .int, accessFlags := 25, slot := 13, constantValue := 0 }, { name := "T_DOUBLE", type := .int, accessFlags := 25, slot := 14, constantValue := 0 }, { name := "T_BYTE", type := .int, accessFlags := 25, slot := 15, constantValue := 0 }, { name := "T_SHORT", type := .int, accessFlags := 25, slot := 16, constantValue := 0 }, { name := "T_INT", type := .int, accessFlags := 25, slot := 17, constantValue := 0 }, { name := "T_LONG", type := .int, accessFlags := 25, slot := 18, constantValue := 0 }, { name := "JLA", type := (.object "jdk/internal/access/JavaLangAccess"), accessFlags := 26, slot := 19, constantValue := 0 }, { name := "SOFT_MAX_ARRAY_LENGTH", type := .int, accessFlags := 25, slot := 20, constantValue := 0 }]
  methods := #[k12m0]
  instanceTypes := #[]
  staticTypes := #[(.object "jdk/internal/misc/Unsafe"), .boolean, .int, .int, .int, .int, .int, .int, .int, .int, .int, .int, .int, .int, .int, .int, .int, .int, .int, (.object "jdk/internal/access/JavaLangAccess"), .int]
  resolved := Array.replicate 378 none
  statics := none }

def pool13 : Array CpInfo := pool [(1, u "java/lang/Cloneable"), (0, .class_ 1), (0, u "java/lang/Object"), (0, .class_ 3)] 3

/-- java/lang/Cloneable -/
def k13 : Class := { plain "java/lang/Cloneable" (some 0) with
  accessFlags := 1537
  interfaces := #[]
  cf := some (fileOf pool13 2 #[] #[] 1537 4 #[] #[])
  fields := #[]
  methods := #[]
  instanceTypes := #[]
  staticTypes := #[]
  resolved := Array.replicate 8 none
  statics := none }

/-- the primitive byte -/
def k14 : Class := { plain "byte" none with kind := .primitive 'B', accessFlags := 0x411 }
/-- [B -/
def k15 : Class := { plain "[B" (some 0) with kind := .array 14 .byte, interfaces := #[13, 2], accessFlags := 1041 }

/-- the primitive int -/
def k16 : Class := { plain "int" none with kind := .primitive 'I', accessFlags := 0x411 }
/-- [I -/
def k17 : Class := { plain "[I" (some 0) with kind := .array 16 .int, interfaces := #[13, 2], accessFlags := 1041 }

def heap : Heap := #[{ cls := 7, slots := #[.long 0, .int 1, .null, .int 0, .null, .int 0, .int 0], vm := .statics 7 },
  { cls := 11, slots := #[.null, .null, .null], vm := .statics 11 }]
def classes : Array Class := #[k0, k1, k2, k3, k4, k5, k6, k7, k8, k9, k10, k11, k12, k13, k14, k15, k16, k17]
def interned : List (Array UInt16 × Addr) := []
def slotsUsed : Nat := 10
def theMethod : MethodId := ⟨1, 1⟩
def args0 : Array Value := #[.int 5, .int 5, .int 5, .int 5]
def aboutOver (below : List Frame) : State where
  vm := { classes := classes, interned := interned.toArray }
  heap := heap
  slotsUsed := slotsUsed
  threads := #[{ frames := .invoking theMethod args0 :: below }]
def below0 : List Frame := [.native { method := ⟨0, 0⟩, args := #[] }]
def about1 : State := aboutOver below0
def p0 : Program := .bare "" "" ""
def e0 : Env := launch0.env 0 0 0
theorem w_frames : about1.frames = Frame.invoking theMethod args0 :: below0 := rfl
set_option maxRecDepth 65536 in
theorem w_args : argsFit about1.vm theMethod args0 = true := by decide +kernel
set_option maxRecDepth 65536 in
theorem w_heap : heapFits about1 = true := by decide +kernel
set_option maxRecDepth 65536 in
theorem w_runnable : about1.curStatus? = some .runnable := by decide +kernel
set_option maxRecDepth 65536 in
theorem w_alone : about1.alone = true := by decide +kernel
set_option maxRecDepth 65536 in
theorem w_named : about1.methodNamed? x = some theMethod := by decide +kernel
set_option maxRecDepth 65536 in
theorem w_hears : about1.hears theMethod below0 = true := by decide +kernel
set_option maxRecDepth 65536 in
theorem w_ripe : about1.ripe theMethod args0 below0 = true := by decide +kernel
theorem w_running : about1.status = .running := rfl
set_option maxRecDepth 65536 in
theorem w_room : about1.hasRoom e0.platform room_1 = true :=
  launch0.hasRoom_least _ room_1 (by decide +kernel) (by decide +kernel) (by decide +kernel) (by decide +kernel) (by decide +kernel) (by decide +kernel)
theorem allAtoms_all (ts : List Jvm.Cond) (a : Array Jvm.Value) (st : Jvm.State) : (allAtoms ts).before a st = ts.all (fun c => c.before a st) := by
  induction ts with
  | nil => rfl
  | cons c t ih =>
    show (Jvm.Cond.and c (allAtoms t)).before a st = _
    rw [Jvm.Cond.before_and, ih, List.all_cons]
def words1 : List Jvm.Cond := Jvm.Cond.code x code maxLocals ret :: tables_1
/-- a 'code' word, met by the world's own term for the bytes: nothing is compared byte by byte -/
theorem code_word {y : MethodName} {bytes : ByteArray} {mx : Nat} {rt : Option FieldType} {a : Array Value} {s : State} {m : MethodId} {meth : Method} {c : Code} (h1 : s.methodNamed? y = some m) (h2 : s.vm.method? m = some meth) (h3 : meth.code = some c) (h4 : c.code = bytes)
    (h5 : (c.maxLocals == mx && c.exceptionTable.isEmpty && decide (c.maxStack ≤ mostOperands) && decide (meth.sig.returnType = rt) && !meth.locks && decide (parseMethodDescriptor y.desc = some meth.sig)) = true) : (Jvm.Cond.code y bytes mx rt).before a s = true := by
  simp only [Bool.and_eq_true, beq_iff_eq, Bool.not_eq_true', decide_eq_true_eq] at h5
  obtain ⟨⟨⟨⟨⟨g1, g2⟩, g3⟩, g4⟩, g5⟩, g6⟩ := h5
  simp [Cond.before, Cond.holds, Cond.value, h1, h2, h3, h4, g1, g2, g3, g4, g5, g6]
def isCode : Jvm.Cond → Bool
  | .code _ _ _ _ => true
  | _ => false
theorem all_split {L : List Jvm.Cond} {P : Jvm.Cond → Bool} (h1 : L.all (fun c => isCode c || P c) = true) (h2 : ∀ c ∈ L.filter isCode, P c = true) : L.all P = true := by
  refine List.all_eq_true.mpr fun c hc => ?_
  have h := List.all_eq_true.mp h1 c hc
  rcases Bool.eq_false_or_eq_true (isCode c) with hi | hi
  · exact h2 c (List.mem_filter.mpr ⟨hc, hi⟩)
  · simpa [hi] using h
set_option maxRecDepth 65536 in
theorem w_c0 : (Jvm.Cond.code x code maxLocals ret).before args0 about1 = true := code_word (m := ⟨1, 1⟩) (meth := k1m1) (c := k1c1) (by decide +kernel) rfl rfl rfl (by decide +kernel)
set_option maxRecDepth 65536 in
theorem w_c1 : (Jvm.Cond.code ({ cls := "java/lang/String", name := "valueOf", desc := "(C)Ljava/lang/String;" } : Jvm.MethodName) jdk_42_method_139_code (1 : Nat) (Option.some (Jvm.ClassFile.FieldType.object "java/lang/String"))).before args0 about1 = true := code_word (m := ⟨7, 1⟩) (meth := k7m1) (c := k7c1) (by decide +kernel) rfl rfl rfl (by decide +kernel)
set_option maxRecDepth 65536 in
theorem w_c2 : (Jvm.Cond.code ({ cls := "java/lang/StringLatin1", name := "canEncode", desc := "(C)Z" } : Jvm.MethodName) jdk_43_method_3_code (1 : Nat) (Option.some Jvm.ClassFile.FieldType.boolean)).before args0 about1 = true := code_word (m := ⟨8, 1⟩) (meth := k8m1) (c := k8c1) (by decide +kernel) rfl rfl rfl (by decide +kernel)
set_option maxRecDepth 65536 in
theorem w_c3 : (Jvm.Cond.code ({ cls := "java/lang/StringLatin1", name := "toBytes", desc := "(C)[B" } : Jvm.MethodName) jdk_43_method_46_code (1 : Nat) (Option.some (Jvm.ClassFile.FieldType.array Jvm.ClassFile.FieldType.byte))).before args0 about1 = true := code_word (m := ⟨8, 2⟩) (meth := k8m2) (c := k8c2) (by decide +kernel) rfl rfl rfl (by decide +kernel)
set_option maxRecDepth 65536 in
theorem w_c4 : (Jvm.Cond.code ({ cls := "java/lang/String", name := "<init>", desc := "([BB)V" } : Jvm.MethodName) jdk_42_method_151_code (3 : Nat) (Option.none : Option Jvm.ClassFile.FieldType)).before args0 about1 = true := code_word (m := ⟨7, 2⟩) (meth := k7m2) (c := k7c2) (by decide +kernel) rfl rfl rfl (by decide +kernel)
set_option maxRecDepth 65536 in
theorem w_c5 : (Jvm.Cond.code ({ cls := "java/lang/Object", name := "<init>", desc := "()V" } : Jvm.MethodName) object_method_1_code (1 : Nat) (Option.none : Option Jvm.ClassFile.FieldType)).before args0 about1 = true := code_word (m := ⟨0, 0⟩) (meth := k0m0) (c := k0c0) (by decide +kernel) rfl rfl rfl (by decide +kernel)
set_option maxRecDepth 65536 in
theorem w_c6 : (Jvm.Cond.code ({ cls := "inducere/OrderConstraints$Constraint", name := "<init>", desc := "(Ljava/lang/String;IIZ)V" } : Jvm.MethodName) prog_75_method_1_code (5 : Nat) (Option.none : Option Jvm.ClassFile.FieldType)).before args0 about1 = true := code_word (m := ⟨10, 0⟩) (meth := k10m0) (c := k10c0) (by decide +kernel) rfl rfl rfl (by decide +kernel)
set_option maxRecDepth 65536 in
theorem w_c7 : (Jvm.Cond.code ({ cls := "java/lang/Record", name := "<init>", desc := "()V" } : Jvm.MethodName) jdk_30_method_1_code (1 : Nat) (Option.none : Option Jvm.ClassFile.FieldType)).before args0 about1 = true := code_word (m := ⟨9, 0⟩) (meth := k9m0) (c := k9c0) (by decide +kernel) rfl rfl rfl (by decide +kernel)
set_option maxRecDepth 65536 in
theorem w_c8 : (Jvm.Cond.code ({ cls := "inducere/OrderConstraints$Constraint", name := "holds", desc := "(I)Z" } : Jvm.MethodName) prog_75_method_2_code (2 : Nat) (Option.some Jvm.ClassFile.FieldType.boolean)).before args0 about1 = true := code_word (m := ⟨10, 1⟩) (meth := k10m1) (c := k10c1) (by decide +kernel) rfl rfl rfl (by decide +kernel)
set_option maxRecDepth 65536 in
theorem w_c9 : (Jvm.Cond.code ({ cls := "inducere/OrderConstraints$Constraint", name := "allowsAll", desc := "()Z" } : Jvm.MethodName) prog_75_method_5_code (1 : Nat) (Option.some Jvm.ClassFile.FieldType.boolean)).before args0 about1 = true := code_word (m := ⟨10, 2⟩) (meth := k10m2) (c := k10c2) (by decide +kernel) rfl rfl rfl (by decide +kernel)
def codes1 : List Jvm.Cond := [Jvm.Cond.code x code maxLocals ret, Jvm.Cond.code ({ cls := "java/lang/String", name := "valueOf", desc := "(C)Ljava/lang/String;" } : Jvm.MethodName) jdk_42_method_139_code (1 : Nat) (Option.some (Jvm.ClassFile.FieldType.object "java/lang/String")), Jvm.Cond.code ({ cls := "java/lang/StringLatin1", name := "canEncode", desc := "(C)Z" } : Jvm.MethodName) jdk_43_method_3_code (1 : Nat) (Option.some Jvm.ClassFile.FieldType.boolean), Jvm.Cond.code ({ cls := "java/lang/StringLatin1", name := "toBytes", desc := "(C)[B" } : Jvm.MethodName) jdk_43_method_46_code (1 : Nat) (Option.some (Jvm.ClassFile.FieldType.array Jvm.ClassFile.FieldType.byte)), Jvm.Cond.code ({ cls := "java/lang/String", name := "<init>", desc := "([BB)V" } : Jvm.MethodName) jdk_42_method_151_code (3 : Nat) (Option.none : Option Jvm.ClassFile.FieldType), Jvm.Cond.code ({ cls := "java/lang/Object", name := "<init>", desc := "()V" } : Jvm.MethodName) object_method_1_code (1 : Nat) (Option.none : Option Jvm.ClassFile.FieldType), Jvm.Cond.code ({ cls := "inducere/OrderConstraints$Constraint", name := "<init>", desc := "(Ljava/lang/String;IIZ)V" } : Jvm.MethodName) prog_75_method_1_code (5 : Nat) (Option.none : Option Jvm.ClassFile.FieldType), Jvm.Cond.code ({ cls := "java/lang/Record", name := "<init>", desc := "()V" } : Jvm.MethodName) jdk_30_method_1_code (1 : Nat) (Option.none : Option Jvm.ClassFile.FieldType), Jvm.Cond.code ({ cls := "inducere/OrderConstraints$Constraint", name := "holds", desc := "(I)Z" } : Jvm.MethodName) prog_75_method_2_code (2 : Nat) (Option.some Jvm.ClassFile.FieldType.boolean), Jvm.Cond.code ({ cls := "inducere/OrderConstraints$Constraint", name := "allowsAll", desc := "()Z" } : Jvm.MethodName) prog_75_method_5_code (1 : Nat) (Option.some Jvm.ClassFile.FieldType.boolean)]
set_option maxRecDepth 65536 in
theorem codes_eq : words1.filter isCode = codes1 := rfl
theorem w_codes : ∀ c ∈ words1.filter isCode, c.before args0 about1 = true := by
  rw [codes_eq]
  intro c hc
  simp only [codes1, List.mem_cons, List.not_mem_nil, or_false] at hc
  rcases hc with rfl | rfl | rfl | rfl | rfl | rfl | rfl | rfl | rfl | rfl
  · exact w_c0
  · exact w_c1
  · exact w_c2
  · exact w_c3
  · exact w_c4
  · exact w_c5
  · exact w_c6
  · exact w_c7
  · exact w_c8
  · exact w_c9
set_option maxRecDepth 65536 in
theorem w_t1 : (words1.take 24).all (fun c => isCode c || c.before args0 about1) = true := by decide +kernel
set_option maxRecDepth 65536 in
theorem w_t2 : ((words1.drop 24).take 24).all (fun c => isCode c || c.before args0 about1) = true := by decide +kernel
set_option maxRecDepth 65536 in
theorem w_t3 : ((words1.drop 24).drop 24).all (fun c => isCode c || c.before args0 about1) = true := by decide +kernel
theorem w_tables : (allAtoms (Jvm.Cond.code x code maxLocals ret :: tables_1)).before args0 about1 = true := by
  rw [allAtoms_all]
  show words1.all (fun c => c.before args0 about1) = true
  refine all_split ?_ w_codes
  rw [← List.take_append_drop 24 words1, List.all_append, w_t1, ← List.take_append_drop 24 (words1.drop 24), List.all_append, w_t2, w_t3]
  rfl
set_option maxRecDepth 65536 in
theorem w_rest : rest_1_c.before args0 about1 = true := by decide +kernel
set_option maxRecDepth 65536 in
theorem w_case : (Jvm.Cond.and given_1 narrow_1).before args0 about1 = true := by decide +kernel
theorem w_applies : (headSpec (Jvm.Cond.code x code maxLocals ret :: tables_1) room_1).applies x e0.platform about1 = true :=
  (Spec.applies_iff w_frames).mpr ⟨w_running, w_runnable, w_alone, w_named, w_hears, w_ripe, w_room, w_tables⟩
theorem atStart : AtStart classFile x code maxLocals ret World_1 tables_1 room_1 Calls_1 rest_1 Pre_1 launch0 p0 e0 about1 theMethod args0 below0 :=
  ⟨lists_1, trivial, launch0.admits_env _ _ _, launch0.least_env, fairChoices_fair.cas, fairChoices_fair.clock, w_frames, w_args, w_heap, w_applies, trivial, w_rest, w_case⟩
end start1
theorem witness_1 : WitnessClaimed_1 := ⟨start1.p0, start1.e0, start1.about1, start1.theMethod, start1.args0, start1.below0, start1.atStart⟩
end Jvm.Pilot.@@N@@
