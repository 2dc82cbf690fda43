import JvmDerived
import JvmDerived.Pilot.@@N@@Statement
import JvmDerived.Pilot.@@N@@Code
set_option linter.unusedVariables false
set_option linter.unusedSimpArgs false
namespace Jvm.Pilot.@@N@@
open Jvm Jvm.ClassFile Sem Op Lib Jvm.Free Jvm.Stand Jvm.LawKit Jvm.RoadKit Bundle Jvm.Pilot.@@N@@.Jvm.D
section OwnKit
variable {p : Program} {l : Launch} {e : Env} {R : Room} {s : State} {m : MethodId} {args : Array Value} {below : List Frame} {meth : Method} {c : Code} {T : State} {locs : List Loc} {cells slots : Nat}
/-- from the state A the body runs to its end and leaves what Q says -/
def own_Go (p : Program) (e : Env) (below : List Frame) (s : State) (Q : Option Value → Heap → List Loc → Prop) (kc ks : Nat) (A : State) : Prop :=
  ∃ s₂ o, Steps p.tables e below A s₂ ∧ s₂.status = .running ∧ Ended s₂ below o ∧ ∃ v L, o = .returned v ∧ Q v s₂.heap L ∧ FrameEnd s o s₂ L kc ks
theorem own_go {Q : Option Value → Heap → List Loc → Prop} {kc ks : Nat} {A B : State} (h : ∀ t, Steps p.tables e below B t → Steps p.tables e below A t) (k : own_Go p e below s Q kc ks B) : own_Go p e below s Q kc ks A := by
  obtain ⟨s₂, o, h1, h2⟩ := k
  exact ⟨s₂, o, h _ h1, h2⟩
/-- from the state A the body runs to the frame g', the heap as it was -/
def own_Arm (p : Program) (l : Launch) (e : Env) (R : Room) (s : State) (m : MethodId) (args : Array Value) (below : List Frame) (meth : Method) (c : Code) (cells slots n0 : Nat) (h : Heap) (g' : JFrame) (A : State) : Prop :=
  ∃ (T' : State) (locs' : List Loc), Stand p l e R s m args below meth c T' locs' cells slots ∧ Fr n0 locs' ∧ T'.heap = h ∧ ∀ t, Steps p.tables e below (T'.setTop g') t → Steps p.tables e below A t
theorem own_arm {n0 : Nat} {h : Heap} {g' : JFrame} {A B : State} (k1 : ∀ t, Steps p.tables e below B t → Steps p.tables e below A t) (k : own_Arm p l e R s m args below meth c cells slots n0 h g' B) : own_Arm p l e R s m args below meth c cells slots n0 h g' A := by
  obtain ⟨T', locs', h1, h2, h3, h4⟩ := k
  exact ⟨T', locs', h1, h2, h3, fun t kt => k1 t (h4 t kt)⟩
theorem own_armEnd {n0 : Nat} {h : Heap} {g g' : JFrame} (X : Stand p l e R s m args below meth c T locs cells slots) (N : Fr n0 locs) (eT : T.heap = h) (q : g' = g) : own_Arm p l e R s m args below meth c cells slots n0 h g' (T.setTop g) :=
  ⟨T, locs, X, N, eT, fun t kt => q ▸ kt⟩
theorem own_mrg {n0 : Nat} {h : Heap} {g g' : JFrame} (X : Stand p l e R s m args below meth c T locs cells slots) (k : own_Arm p l e R s m args below meth c cells slots n0 h g' (T.setTop g)) :
    ∃ (T' : State) (locs' : List Loc), Stand p l e R s m args below meth c T' locs' cells slots ∧ Fr n0 locs' ∧ T'.heap = h ∧ ∀ t, Steps p.tables e below (T'.setTop g') t → Steps p.tables e below (T.setTop g) t := k
theorem own_leave {Q : Option Value → Heap → List Loc → Prop} {kc ks : Nat} {A : State} {v : Option Value} (X : Stand p l e R s m args below meth c T locs cells slots) (hv : meth.sig.returnType = none → v = none) (hlk : meth.locks = false)
    (hc : cells ≤ kc) (hs : slots ≤ ks) (hQ : Q v T.heap locs) (k : ∀ fs, (∀ (f : JFrame) (acts : List Action), f.method = m → f.locked = none → f.entered = [] → (doReturn e (T.setTop f) acts v).1 = T.setFrames fs) → Steps p.tables e below A (T.setFrames fs)) : own_Go p e below s Q kc ks A := by
  obtain ⟨fs, hr, hrun, hended, hW, hsame⟩ := X.leave (v := v) hv hlk
  exact ⟨_, _, k fs hr, hrun, hended, _, _, rfl, hQ, ⟨_, rfl⟩, hW, hsame.mono hc hs⟩
theorem own_retI {Q : Option Value → Heap → List Loc → Prop} {kc ks pc : Nat} {Ls : Array Slot} {z : Int32} {rest : List Value} (X : Stand p l e R s m args below meth c T locs cells slots) (hx : p.tables.exec = Jvm.exec) (hret : meth.sig.returnType = some .int) (hlk : meth.locks = false)
    (hd : decode c.code pc = .ok (.ireturn, 1)) (hc : cells ≤ kc) (hs : slots ≤ ks) (hQ : Q (some (.int z)) T.heap locs) : own_Go p e below s Q kc ks (T.setTop (mkF m pc Ls (.int z :: rest))) := by
  refine own_leave X (fun h => by rw [hret] at h; cases h) hlk hc hs hQ fun fs hl => ?_
  have hm' : T.vm.method? m = some meth := X.method'
  have hn : narrow .int (.int z) = .int z := rfl
  show Steps p.tables e below (T.setTop { method := m, pc := pc, locals := Ls, stack := _ :: rest, locked := none }) _
  jvm_step X.here [X.here.top, hx, hd, hm', hret, hn]
  first | (intro acts; rw [hl _ acts rfl rfl rfl]) | rw [hl _ _ rfl rfl rfl]
  exact Steps.refl _
theorem own_retN {Q : Option Value → Heap → List Loc → Prop} {kc ks pc : Nat} {Ls : Array Slot} {z : Int32} {rest : List Value} {t : FieldType} (X : Stand p l e R s m args below meth c T locs cells slots) (hx : p.tables.exec = Jvm.exec) (hret : meth.sig.returnType = some t) (ht : t = .boolean ∨ t = .byte ∨ t = .char ∨ t = .short) (hlk : meth.locks = false)
    (hd : decode c.code pc = .ok (.ireturn, 1)) (hc : cells ≤ kc) (hs : slots ≤ ks) (hQ : Q (some (.int (nar t z))) T.heap locs) : own_Go p e below s Q kc ks (T.setTop (mkF m pc Ls (.int z :: rest))) :=
  own_leave X (fun h => by rw [hret] at h; cases h) hlk hc hs hQ fun fs hl => retN X hx (t := t) hret ht hd hl
theorem own_nar01 {z : Int32} (h : z = 0 ∨ z = 1) : nar .boolean z = z := by rcases h with rfl | rfl <;> rfl
theorem own_retZ {Q : Option Value → Heap → List Loc → Prop} {kc ks pc : Nat} {Ls : Array Slot} {z : Int32} {rest : List Value} (X : Stand p l e R s m args below meth c T locs cells slots) (hx : p.tables.exec = Jvm.exec) (hret : meth.sig.returnType = some .boolean) (hlk : meth.locks = false)
    (hd : decode c.code pc = .ok (.ireturn, 1)) (hc : cells ≤ kc) (hs : slots ≤ ks) (hz : z = 0 ∨ z = 1) (hQ : Q (some (.int z)) T.heap locs) : own_Go p e below s Q kc ks (T.setTop (mkF m pc Ls (.int z :: rest))) :=
  own_retN X hx hret (Or.inl rfl) hlk hd hc hs (by rw [own_nar01 hz]; exact hQ)
theorem own_retJ {Q : Option Value → Heap → List Loc → Prop} {kc ks pc : Nat} {Ls : Array Slot} {z : Int64} (X : Stand p l e R s m args below meth c T locs cells slots) (hx : p.tables.exec = Jvm.exec) (hret : meth.sig.returnType = some .long) (hlk : meth.locks = false)
    (hd : decode c.code pc = .ok (.lreturn, 1)) (hc : cells ≤ kc) (hs : slots ≤ ks) (hQ : Q (some (.long z)) T.heap locs) : own_Go p e below s Q kc ks (T.setTop (mkF m pc Ls [.long z])) :=
  own_leave X (fun h => by rw [hret] at h; cases h) hlk hc hs hQ fun fs hl => X.lreturnOut hx hret hd hl
theorem own_retA {Q : Option Value → Heap → List Loc → Prop} {kc ks pc : Nat} {Ls : Array Slot} {w : Value} {t : FieldType} {rest : List Value} (X : Stand p l e R s m args below meth c T locs cells slots) (hx : p.tables.exec = Jvm.exec) (hret : meth.sig.returnType = some t) (ht : t.isReference = true) (hw : w.isRef = true) (hlk : meth.locks = false)
    (hd : decode c.code pc = .ok (.areturn, 1)) (hc : cells ≤ kc) (hs : slots ≤ ks) (hQ : Q (some w) T.heap locs) : own_Go p e below s Q kc ks (T.setTop (mkF m pc Ls (w :: rest))) := by
  refine own_leave X (fun h => by rw [hret] at h; cases h) hlk hc hs hQ fun fs hl => ?_
  have hm' : T.vm.method? m = some meth := X.method'
  show Steps p.tables e below (T.setTop { method := m, pc := pc, locals := Ls, stack := _ :: rest, locked := none }) _
  rcases ref_cases hw with rfl | ⟨a, rfl⟩
  all_goals
    jvm_step X.here [X.here.top, hx, hd, hm', hret, Value.isRef, ht]
    first | (intro acts; rw [hl _ acts rfl rfl rfl]) | rw [hl _ _ rfl rfl rfl]
    exact Steps.refl _
theorem own_retV {Q : Option Value → Heap → List Loc → Prop} {kc ks pc : Nat} {Ls : Array Slot} (X : Stand p l e R s m args below meth c T locs cells slots) (hx : p.tables.exec = Jvm.exec) (hret : meth.sig.returnType = none) (hlk : meth.locks = false)
    (hd : decode c.code pc = .ok (.return_, 1)) (hc : cells ≤ kc) (hs : slots ≤ ks) (hQ : Q none T.heap locs) : own_Go p e below s Q kc ks (T.setTop (mkF m pc Ls [])) :=
  own_leave X (fun _ => rfl) hlk hc hs hQ fun fs hl => X.returnOut hx hret hd hl
theorem own_getFR {Z : State} {a0 : Array Value} {h : Heap} (X : Stand p l e R s m args below meth c T locs cells slots) (hx : p.tables.exec = Jvm.exec) (hZ : Z.Warmed39 s.vm) {own O n d : String} {index : Nat} (hown : s.vm.findClass own = some m.cls) (w : (Jvm.Cond.fieldRef own index O n d).before a0 Z = true)
    (eT : T.heap = h) {a : Addr} {v : Value} (F : Fld Z h a O n d v) {g : JFrame} (hg : g.method = m) {rest : List Value} (hs : g.stack = .ref a :: rest) (hd : decode c.code g.pc = .ok (.getfield index, 3)) (target : State) (k : Steps p.tables e below (T.setTop { g with pc := g.pc + 3, stack := v :: rest }) target) : Steps p.tables e below (T.setTop g) target := by
  obtain ⟨cell, cf, kc, i, f, h1, h2, h3, h4, -, -, h7⟩ := F
  have hW : Z.Warmed39 T.vm := wtrans hZ X.warmed
  have w2 := Cond.fieldRef_warmed39 hW w
  obtain ⟨k', hi, -⟩ := State.fieldFound?_setVm (s := Z) hW.alike h2
  have hc : (Z.setVm T.vm).vm.findClass own = some m.cls := by show T.vm.findClass own = _; rw [X.warmed.alike.findClass]; exact hown
  obtain ⟨c1, k1, i1, f1, e1, hr⟩ := Cond.fieldRef_spec hc w2
  cases hi.symm.trans e1
  exact (X.getfieldR hx hg (cF := cf) (field := f) hr h3 hs (by rw [eT]; exact h1) h4 h7 hd (Steps.refl _)).trans k
theorem own_ite01 {c : Prop} [Decidable c] {a b : Int32} (ha : a = 0 ∨ a = 1) (hb : b = 0 ∨ b = 1) : (if c then a else b) = 0 ∨ (if c then a else b) = 1 := by split <;> assumption
end OwnKit
theorem own_lc_eq {a b : Int64} (h : a = b) : lcmpW a b = 0 := by subst h; simp [lcmpW]
theorem own_lc_neq {a b : Int64} (h : ¬ (a = b)) : ¬ (lcmpW a b = 0) := by unfold lcmpW; split <;> first | decide | (rw [if_neg h]; decide)
theorem own_lc_lt {a b : Int64} (h : a < b) : lcmpW a b < 0 := by
  have h1 : ¬ (a > b) := fun q => Int64.lt_irrefl (Int64.lt_trans h q)
  have h2 : ¬ (a = b) := fun q => by subst q; exact Int64.lt_irrefl h
  rw [lcmpW, if_neg h1, if_neg h2]; decide
theorem own_lc_nlt {a b : Int64} (h : ¬ (a < b)) : ¬ (lcmpW a b < 0) := by
  unfold lcmpW
  split
  · decide
  · rename_i h1
    split
    · decide
    · rename_i h2; exact absurd (Int64.le_antisymm (Int64.not_lt.mp h1) (Int64.not_lt.mp h)) h2
theorem own_lc_gt {a b : Int64} (h : b < a) : (0 : Int32) < lcmpW a b := by rw [lcmpW, if_pos h]; decide
theorem own_lc_ngt {a b : Int64} (h : ¬ (b < a)) : ¬ ((0 : Int32) < lcmpW a b) := by
  rw [lcmpW, if_neg h]; split <;> decide
theorem own_rn {w : Value} {C : String} (h : w.isRef = true) : narrow (.object C) w = w := by rcases ref_cases h with rfl | ⟨a, rfl⟩ <;> rfl
theorem own_rf {w : Value} {C : String} (h : w.isRef = true) : fits (.object C) w = true := by rcases ref_cases h with rfl | ⟨a, rfl⟩ <;> rfl
theorem own_plainE {Z : State} {h : Heap} {a : Addr} {C : String} (E : Exa Z h a C) : ∀ cell : Cell, h[a]? = some cell → cell.vm.isStatics = false := fun cell hc => by
  obtain ⟨c, k, h1, -, -, h4, -⟩ := E
  cases h1.symm.trans hc; exact h4
theorem own_staKeep {Z : State} {h h' : Heap} {C n d : String} {v : Value} {ws : List Addr} (F : Sta Z h C n d v) (K : Keep h h' ws) (q : ∀ x ∈ ws, ∀ cell : Cell, h[x]? = some cell → cell.vm.isStatics = false) : Sta Z h' C n d v := by
  obtain ⟨cf, i, k, f, st, cell, h1, h2, h3, h4, h5, h6, h7⟩ := F
  exact ⟨cf, i, k, f, st, cell, h1, h2, h3, h4, K.2.1 st cell h5 (fun hm => by rw [q st hm cell h5] at h6; cases h6), h6, h7⟩
def own_up {α : Type} (f : Nat → α) (i : Nat) (v : α) : Nat → α := fun k => if k = i then v else f k
def own_AI (Z : State) (h : Heap) (a : Addr) (ty : FieldType) (n : Nat) (f : Nat → Int32) : Prop := ∃ c : Cell, Arr Z h a c ty ∧ c.slots.size = n ∧ n < 2 ^ 31 ∧ ∀ j, j < n → c.slots[j]? = some (.int (f j))
theorem own_AI.lt {Z : State} {h : Heap} {a : Addr} {ty : FieldType} {n : Nat} {f : Nat → Int32} (F : own_AI Z h a ty n f) : a < h.size := by obtain ⟨c, A, -⟩ := F; exact A.lt
theorem own_AI.ext {Z : State} {h h' : Heap} {a : Addr} {ty : FieldType} {n : Nat} {f : Nat → Int32} (F : own_AI Z h a ty n f) (E : Ext h h') : own_AI Z h' a ty n f := by obtain ⟨c, A, r⟩ := F; exact ⟨c, A.ext E, r⟩
theorem own_AI.other {Z : State} {h h' : Heap} {a b : Addr} {ty : FieldType} {n sl : Nat} {w : Value} {f : Nat → Int32} (F : own_AI Z h a ty n f) (W : Wr h h' b sl w) (q : a ≠ b) : own_AI Z h' a ty n f := by obtain ⟨c, A, r⟩ := F; exact ⟨c, A.other W q, r⟩
theorem own_AI.keep {Z : State} {h h' : Heap} {a : Addr} {ty : FieldType} {n : Nat} {ws : List Addr} {f : Nat → Int32} (F : own_AI Z h a ty n f) (K : Keep h h' ws) (q : a ∉ ws) : own_AI Z h' a ty n f := by obtain ⟨c, A, r⟩ := F; exact ⟨c, ⟨K.2.1 a c A.1 q, A.2⟩, r⟩
theorem own_plainAI {Z : State} {h : Heap} {a : Addr} {ty : FieldType} {n : Nat} {f : Nat → Int32} (F : own_AI Z h a ty n f) : ∀ cell : Cell, h[a]? = some cell → cell.vm.isStatics = false := fun cell hc => by
  obtain ⟨c, A, -⟩ := F
  cases A.1.symm.trans hc; exact A.plain
theorem own_AI.wr {Z : State} {h h' : Heap} {a : Addr} {ty : FieldType} {n i : Nat} {x : Int32} {f : Nat → Int32} (F : own_AI Z h a ty n f) (W : Wr h h' a i (.int x)) : own_AI Z h' a ty n (own_up f i x) := by
  obtain ⟨c, A, S, B, H⟩ := F
  refine ⟨_, A.same W, by rw [sz_set]; exact S, B, fun j hj => ?_⟩
  show (c.slots.setIfInBounds i _)[j]? = _
  rw [Array.getElem?_setIfInBounds]
  by_cases q : i = j
  · subst q
    rw [if_pos rfl, if_pos (by rw [S]; exact hj)]; simp [own_up]
  · rw [if_neg q, H j hj, own_up, if_neg (fun e => q e.symm)]
theorem own_AI.new {Z : State} {h : Heap} {a : Addr} {k : ClassId} {ty : FieldType} {z : Int32} {n : Nat} (A : Arr Z h a (newA k ty z) ty) (hd : defaultValue ty = .int 0) (hn : z.toNatClampNeg = n) : own_AI Z h a ty n (fun _ => 0) := by
  refine ⟨_, A, by rw [sz_new]; exact hn, ?_, fun j hj => ?_⟩
  · have := Int32.toInt_lt z; rw [← hn]; unfold Int32.toNatClampNeg; omega
  · have hs : (newA k ty z).slots.size = n := by rw [sz_new]; exact hn
    simp only [newA] at hs ⊢
    rw [Array.getElem?_replicate, if_pos (by rw [hn]; exact hj), hd]
def own_AJ (Z : State) (h : Heap) (a : Addr) (ty : FieldType) (n : Nat) (f : Nat → Int64) : Prop := ∃ c : Cell, Arr Z h a c ty ∧ c.slots.size = n ∧ n < 2 ^ 31 ∧ ∀ j, j < n → c.slots[j]? = some (.long (f j))
theorem own_AJ.lt {Z : State} {h : Heap} {a : Addr} {ty : FieldType} {n : Nat} {f : Nat → Int64} (F : own_AJ Z h a ty n f) : a < h.size := by obtain ⟨c, A, -⟩ := F; exact A.lt
theorem own_AJ.ext {Z : State} {h h' : Heap} {a : Addr} {ty : FieldType} {n : Nat} {f : Nat → Int64} (F : own_AJ Z h a ty n f) (E : Ext h h') : own_AJ Z h' a ty n f := by obtain ⟨c, A, r⟩ := F; exact ⟨c, A.ext E, r⟩
theorem own_AJ.other {Z : State} {h h' : Heap} {a b : Addr} {ty : FieldType} {n sl : Nat} {w : Value} {f : Nat → Int64} (F : own_AJ Z h a ty n f) (W : Wr h h' b sl w) (q : a ≠ b) : own_AJ Z h' a ty n f := by obtain ⟨c, A, r⟩ := F; exact ⟨c, A.other W q, r⟩
theorem own_AJ.keep {Z : State} {h h' : Heap} {a : Addr} {ty : FieldType} {n : Nat} {ws : List Addr} {f : Nat → Int64} (F : own_AJ Z h a ty n f) (K : Keep h h' ws) (q : a ∉ ws) : own_AJ Z h' a ty n f := by obtain ⟨c, A, r⟩ := F; exact ⟨c, ⟨K.2.1 a c A.1 q, A.2⟩, r⟩
theorem own_plainAJ {Z : State} {h : Heap} {a : Addr} {ty : FieldType} {n : Nat} {f : Nat → Int64} (F : own_AJ Z h a ty n f) : ∀ cell : Cell, h[a]? = some cell → cell.vm.isStatics = false := fun cell hc => by
  obtain ⟨c, A, -⟩ := F
  cases A.1.symm.trans hc; exact A.plain
theorem own_AJ.wr {Z : State} {h h' : Heap} {a : Addr} {ty : FieldType} {n i : Nat} {x : Int64} {f : Nat → Int64} (F : own_AJ Z h a ty n f) (W : Wr h h' a i (.long x)) : own_AJ Z h' a ty n (own_up f i x) := by
  obtain ⟨c, A, S, B, H⟩ := F
  refine ⟨_, A.same W, by rw [sz_set]; exact S, B, fun j hj => ?_⟩
  show (c.slots.setIfInBounds i _)[j]? = _
  rw [Array.getElem?_setIfInBounds]
  by_cases q : i = j
  · subst q
    rw [if_pos rfl, if_pos (by rw [S]; exact hj)]; simp [own_up]
  · rw [if_neg q, H j hj, own_up, if_neg (fun e => q e.symm)]
theorem own_AJ.new {Z : State} {h : Heap} {a : Addr} {k : ClassId} {ty : FieldType} {z : Int32} {n : Nat} (A : Arr Z h a (newA k ty z) ty) (hd : defaultValue ty = .long 0) (hn : z.toNatClampNeg = n) : own_AJ Z h a ty n (fun _ => 0) := by
  refine ⟨_, A, by rw [sz_new]; exact hn, ?_, fun j hj => ?_⟩
  · have := Int32.toInt_lt z; rw [← hn]; unfold Int32.toNatClampNeg; omega
  · have hs : (newA k ty z).slots.size = n := by rw [sz_new]; exact hn
    simp only [newA] at hs ⊢
    rw [Array.getElem?_replicate, if_pos (by rw [hn]; exact hj), hd]
section OwnArr
variable {p : Program} {l : Launch} {e : Env} {R : Room} {s : State} {m : MethodId} {args : Array Value} {below : List Frame} {meth : Method} {c : Code} {T : State} {locs : List Loc} {cells slots : Nat} {Z : State} {h : Heap}
theorem own_inb {j : Int32} {n k : Nat} (S : k = n) (hj : ¬ j < 0 ∧ j.toNatClampNeg < n) : ¬ (j < 0 ∨ k ≤ j.toNatClampNeg) := fun q => q.elim hj.1 (fun u => absurd hj.2 (by omega))
theorem own_ldI (X : Stand p l e R s m args below meth c T locs cells slots) (hx : p.tables.exec = Jvm.exec) (hZ : Z.Warmed39 s.vm) (eT : T.heap = h) {a : Addr} {n : Nat} {f : Nat → Int32} (A : own_AI Z h a .int n f) {j : Int32} (hj : ¬ j < 0 ∧ j.toNatClampNeg < n)
    {g : JFrame} (hg : g.method = m) {rest : List Value} (hs : g.stack = .int j :: .ref a :: rest) (hd : decode c.code g.pc = .ok (.iaload, 1)) (target : State) (k : Steps p.tables e below (T.setTop { g with pc := g.pc + 1, stack := .int (f j.toNatClampNeg) :: rest }) target) : Steps p.tables e below (T.setTop g) target := by
  obtain ⟨c', Ar, S, -, H⟩ := A
  exact X.iaload hx (by rw [eT]; exact Ar.1) (State.isArrayOf_alike hZ.alike Ar.2.1) Ar.2.2 (own_inb S hj) (H _ hj.2) hg hs hd target k
theorem own_ldB (X : Stand p l e R s m args below meth c T locs cells slots) (hx : p.tables.exec = Jvm.exec) (hZ : Z.Warmed39 s.vm) (eT : T.heap = h) {a : Addr} {n : Nat} {f : Nat → Int32} (A : own_AI Z h a .byte n f) {j : Int32} (hj : ¬ j < 0 ∧ j.toNatClampNeg < n)
    {g : JFrame} (hg : g.method = m) {rest : List Value} (hs : g.stack = .int j :: .ref a :: rest) (hd : decode c.code g.pc = .ok (.baload, 1)) (target : State) (k : Steps p.tables e below (T.setTop { g with pc := g.pc + 1, stack := .int (f j.toNatClampNeg) :: rest }) target) : Steps p.tables e below (T.setTop g) target := by
  obtain ⟨c', Ar, S, -, H⟩ := A
  exact X.baloadBytes hx (by rw [eT]; exact Ar.1) (State.isArrayOf_alike hZ.alike Ar.2.1) Ar.2.2 (own_inb S hj) (H _ hj.2) hg hs hd target k
theorem own_ldJ (X : Stand p l e R s m args below meth c T locs cells slots) (hx : p.tables.exec = Jvm.exec) (hZ : Z.Warmed39 s.vm) (eT : T.heap = h) {a : Addr} {n : Nat} {f : Nat → Int64} (A : own_AJ Z h a .long n f) {j : Int32} (hj : ¬ j < 0 ∧ j.toNatClampNeg < n)
    {g : JFrame} (hg : g.method = m) {rest : List Value} (hs : g.stack = .int j :: .ref a :: rest) (hd : decode c.code g.pc = .ok (.laload, 1)) (target : State) (k : Steps p.tables e below (T.setTop { g with pc := g.pc + 1, stack := .long (f j.toNatClampNeg) :: rest }) target) : Steps p.tables e below (T.setTop g) target := by
  obtain ⟨c', Ar, S, -, H⟩ := A
  exact X.laload hx (by rw [eT]; exact Ar.1) (State.isArrayOf_alike hZ.alike Ar.2.1) Ar.2.2 (own_inb S hj) (H _ hj.2) hg hs hd target k
theorem own_lenI (X : Stand p l e R s m args below meth c T locs cells slots) (hx : p.tables.exec = Jvm.exec) (hZ : Z.Warmed39 s.vm) (eT : T.heap = h) {a : Addr} {ty : FieldType} {n : Nat} {f : Nat → Int32} (A : own_AI Z h a ty n f)
    {g : JFrame} (hg : g.method = m) {rest : List Value} (hs : g.stack = .ref a :: rest) (hd : decode c.code g.pc = .ok (.arraylength, 1)) (target : State) (k : Steps p.tables e below (T.setTop { g with pc := g.pc + 1, stack := .int (n.toInt32) :: rest }) target) : Steps p.tables e below (T.setTop g) target := by
  obtain ⟨c', Ar, S, -, H⟩ := A
  exact X.arraylength hx (by rw [eT]; exact Ar.1) (State.isArrayOf_alike hZ.alike Ar.2.1) hg hs hd target (by rw [S]; exact k)
theorem own_lenJ (X : Stand p l e R s m args below meth c T locs cells slots) (hx : p.tables.exec = Jvm.exec) (hZ : Z.Warmed39 s.vm) (eT : T.heap = h) {a : Addr} {ty : FieldType} {n : Nat} {f : Nat → Int64} (A : own_AJ Z h a ty n f)
    {g : JFrame} (hg : g.method = m) {rest : List Value} (hs : g.stack = .ref a :: rest) (hd : decode c.code g.pc = .ok (.arraylength, 1)) (target : State) (k : Steps p.tables e below (T.setTop { g with pc := g.pc + 1, stack := .int (n.toInt32) :: rest }) target) : Steps p.tables e below (T.setTop g) target := by
  obtain ⟨c', Ar, S, -, H⟩ := A
  exact X.arraylength hx (by rw [eT]; exact Ar.1) (State.isArrayOf_alike hZ.alike Ar.2.1) hg hs hd target (by rw [S]; exact k)
theorem own_stI (X : Stand p l e R s m args below meth c T locs cells slots) (hx : p.tables.exec = Jvm.exec) (hZ : Z.Warmed39 s.vm) (eT : T.heap = h) {a : Addr} {n : Nat} {f : Nat → Int32} (A : own_AI Z h a .int n f) {j x : Int32} (hj : ¬ j < 0 ∧ j.toNatClampNeg < n)
    {g : JFrame} (hg : g.method = m) {rest : List Value} (hs : g.stack = .int x :: .int j :: .ref a :: rest) (hd : decode c.code g.pc = .ok (.iastore, 1)) :
    ∃ T' h', Stand p l e R s m args below meth c T' (locs ++ [⟨a, j.toNatClampNeg⟩]) cells slots ∧ T'.heap = h' ∧ Wr h h' a j.toNatClampNeg (.int x) ∧ own_AI Z h' a .int n (own_up f j.toNatClampNeg x) ∧ ∀ target, Steps p.tables e below (T'.setTop { g with pc := g.pc + 1, stack := rest }) target → Steps p.tables e below (T.setTop g) target := by
  have A2 := A
  obtain ⟨c', Ar, S, -, H⟩ := A
  obtain ⟨T', h', X', e', W, st⟩ := stI X hx hZ eT Ar (j := j) (x := x) (own_inb S hj) hg hs hd
  exact ⟨T', h', X', e', W, A2.wr W, st⟩
theorem own_stB (X : Stand p l e R s m args below meth c T locs cells slots) (hx : p.tables.exec = Jvm.exec) (hZ : Z.Warmed39 s.vm) (eT : T.heap = h) {a : Addr} {n : Nat} {f : Nat → Int32} (A : own_AI Z h a .byte n f) {j x : Int32} (hj : ¬ j < 0 ∧ j.toNatClampNeg < n)
    {g : JFrame} (hg : g.method = m) {rest : List Value} (hs : g.stack = .int x :: .int j :: .ref a :: rest) (hd : decode c.code g.pc = .ok (.bastore, 1)) :
    ∃ T' h', Stand p l e R s m args below meth c T' (locs ++ [⟨a, j.toNatClampNeg⟩]) cells slots ∧ T'.heap = h' ∧ Wr h h' a j.toNatClampNeg (.int (nar .byte x)) ∧ own_AI Z h' a .byte n (own_up f j.toNatClampNeg (nar .byte x)) ∧ ∀ target, Steps p.tables e below (T'.setTop { g with pc := g.pc + 1, stack := rest }) target → Steps p.tables e below (T.setTop g) target := by
  have A2 := A
  obtain ⟨c', Ar, S, -, H⟩ := A
  obtain ⟨T', h', X', e', W, st⟩ := stB X hx hZ eT Ar (j := j) (x := x) (own_inb S hj) hg hs hd
  exact ⟨T', h', X', e', W, A2.wr W, st⟩
theorem own_stC (X : Stand p l e R s m args below meth c T locs cells slots) (hx : p.tables.exec = Jvm.exec) (hZ : Z.Warmed39 s.vm) (eT : T.heap = h) {a : Addr} {n : Nat} {f : Nat → Int32} (A : own_AI Z h a .char n f) {j x : Int32} (hj : ¬ j < 0 ∧ j.toNatClampNeg < n)
    {g : JFrame} (hg : g.method = m) {rest : List Value} (hs : g.stack = .int x :: .int j :: .ref a :: rest) (hd : decode c.code g.pc = .ok (.castore, 1)) :
    ∃ T' h', Stand p l e R s m args below meth c T' (locs ++ [⟨a, j.toNatClampNeg⟩]) cells slots ∧ T'.heap = h' ∧ Wr h h' a j.toNatClampNeg (.int (nar .char x)) ∧ own_AI Z h' a .char n (own_up f j.toNatClampNeg (nar .char x)) ∧ ∀ target, Steps p.tables e below (T'.setTop { g with pc := g.pc + 1, stack := rest }) target → Steps p.tables e below (T.setTop g) target := by
  have A2 := A
  obtain ⟨c', Ar, S, -, H⟩ := A
  obtain ⟨T', h', X', e', W, st⟩ := stC X hx hZ eT Ar (j := j) (x := x) (own_inb S hj) hg hs hd
  exact ⟨T', h', X', e', W, A2.wr W, st⟩
theorem own_stJ (X : Stand p l e R s m args below meth c T locs cells slots) (hx : p.tables.exec = Jvm.exec) (hZ : Z.Warmed39 s.vm) (eT : T.heap = h) {a : Addr} {n : Nat} {f : Nat → Int64} (A : own_AJ Z h a .long n f) {j : Int32} {x : Int64} (hj : ¬ j < 0 ∧ j.toNatClampNeg < n)
    {g : JFrame} (hg : g.method = m) {rest : List Value} (hs : g.stack = .long x :: .int j :: .ref a :: rest) (hd : decode c.code g.pc = .ok (.lastore, 1)) :
    ∃ T' h', Stand p l e R s m args below meth c T' (locs ++ [⟨a, j.toNatClampNeg⟩]) cells slots ∧ T'.heap = h' ∧ Wr h h' a j.toNatClampNeg (.long x) ∧ own_AJ Z h' a .long n (own_up f j.toNatClampNeg x) ∧ ∀ target, Steps p.tables e below (T'.setTop { g with pc := g.pc + 1, stack := rest }) target → Steps p.tables e below (T.setTop g) target := by
  have A2 := A
  obtain ⟨c', Ar, S, -, H⟩ := A
  obtain ⟨T', h', X', e', W, st⟩ := stJ X hx hZ eT Ar (j := j) (x := x) (own_inb S hj) hg hs hd
  exact ⟨T', h', X', e', W, A2.wr W, st⟩
end OwnArr
theorem d1_0 : decode prog_20_method_1_code 0 = .ok (.aload_n 0, 1) := by decide +kernel
theorem d1_1 : decode prog_20_method_1_code 1 = .ok (.invokespecial 1, 3) := by decide +kernel
theorem d1_4 : decode prog_20_method_1_code 4 = .ok (.aload_n 0, 1) := by decide +kernel
theorem d1_5 : decode prog_20_method_1_code 5 = .ok (.lload_n 1, 1) := by decide +kernel
theorem d1_6 : decode prog_20_method_1_code 6 = .ok (.putfield 7, 3) := by decide +kernel
theorem d1_9 : decode prog_20_method_1_code 9 = .ok (.aload_n 0, 1) := by decide +kernel
theorem d1_10 : decode prog_20_method_1_code 10 = .ok (.aload_n 3, 1) := by decide +kernel
theorem d1_11 : decode prog_20_method_1_code 11 = .ok (.putfield 13, 3) := by decide +kernel
theorem d1_14 : decode prog_20_method_1_code 14 = .ok (.aload_n 0, 1) := by decide +kernel
theorem d1_15 : decode prog_20_method_1_code 15 = .ok (.iload 4, 2) := by decide +kernel
theorem d1_17 : decode prog_20_method_1_code 17 = .ok (.putfield 17, 3) := by decide +kernel
theorem d1_20 : decode prog_20_method_1_code 20 = .ok (.aload_n 0, 1) := by decide +kernel
theorem d1_21 : decode prog_20_method_1_code 21 = .ok (.aload 5, 2) := by decide +kernel
theorem d1_23 : decode prog_20_method_1_code 23 = .ok (.putfield 21, 3) := by decide +kernel
theorem d1_26 : decode prog_20_method_1_code 26 = .ok (.aload_n 0, 1) := by decide +kernel
theorem d1_27 : decode prog_20_method_1_code 27 = .ok (.lload 6, 2) := by decide +kernel
theorem d1_29 : decode prog_20_method_1_code 29 = .ok (.putfield 25, 3) := by decide +kernel
theorem d1_32 : decode prog_20_method_1_code 32 = .ok (.aload_n 0, 1) := by decide +kernel
theorem d1_33 : decode prog_20_method_1_code 33 = .ok (.lload 6, 2) := by decide +kernel
theorem d1_35 : decode prog_20_method_1_code 35 = .ok (.putfield 28, 3) := by decide +kernel
theorem d1_38 : decode prog_20_method_1_code 38 = .ok (.return_, 1) := by decide +kernel
theorem ef_1 (m : MethodId) (r0 : Addr) (q1 : Int64) (r2 : Addr) (p3 : Int32) (q5 : Int64) : entryFrame m #[(.ref r0), (.long q1), (.ref r2), (.int p3), .null, (.long q5)] 8 = mkF m 0 #[.val (.ref r0), .val (.long q1), .second, .val (.ref r2), .val (.int p3), .val .null, .val (.long q5), .second] [] := by (first | (simp [entryFrame, mkF, argsToLocals, Value.category]; done) | rfl)
theorem pn0 : plainName "com/example/millrace/millrace/queue/Message" = true := by first | (simp [plainName, overriddenIn]; done) | decide +kernel
def Q1 (Z : State) (r0 : Addr) (q1 : Int64) (r2 : Addr) (p3 : Int32) (q5 : Int64) (w5 : Int64) (u_body_r0 : Value) (w7 : Int32) (u_group_r0 : Value) (w9 : Int64) (w10 : Int64) (w11 : Int32) (w12 : Int64) (h0 : Heap) (n0 : Nat) (v : Option Value) (h : Heap) (L : List Loc) : Prop := v = none ∧ Fr n0 L ∧ Keep h0 h [r0] ∧ Exa Z h r0 "com/example/millrace/millrace/queue/Message" ∧ Fld Z h r0 "com/example/millrace/millrace/queue/Message" "id" "J" (.long q1) ∧ Fld Z h r0 "com/example/millrace/millrace/queue/Message" "body" "[B" (.ref r2) ∧ Fld Z h r0 "com/example/millrace/millrace/queue/Message" "priority" "I" (.int p3) ∧ Fld Z h r0 "com/example/millrace/millrace/queue/Message" "group" "Ljava/lang/String;" .null ∧ Fld Z h r0 "com/example/millrace/millrace/queue/Message" "due" "J" (.long q5) ∧ Fld Z h r0 "com/example/millrace/millrace/queue/Message" "readySince" "J" (.long q5) ∧ Fld Z h r0 "com/example/millrace/millrace/queue/Message" "sendBytes" "I" (.int w11) ∧ Fld Z h r0 "com/example/millrace/millrace/queue/Message" "laterBytes" "J" (.long w12)
set_option maxRecDepth 65536 in
set_option maxHeartbeats 40000000 in
theorem rm1 (l : Launch) (Z : State) (a0 : Array Value) (hw : ∀ d ∈ tables_1, d.before a0 Z = true) (ws : List Jvm.Cond) (r0 : Addr) (q1 : Int64) (r2 : Addr) (p3 : Int32) (q5 : Int64) (w5 : Int64) (u_body_r0 : Value) (w7 : Int32) (u_group_r0 : Value) (w9 : Int64) (w10 : Int64) (w11 : Int32) (w12 : Int64) (h0 : Heap) (n0 : Nat) (Z0 : n0 ≤ h0.size) (E_r0 : Exa Z h0 r0 "com/example/millrace/millrace/queue/Message") (F_id_r0 : Fld Z h0 r0 "com/example/millrace/millrace/queue/Message" "id" "J" (.long w5)) (F_body_r0 : Fld Z h0 r0 "com/example/millrace/millrace/queue/Message" "body" "[B" u_body_r0) (F_priority_r0 : Fld Z h0 r0 "com/example/millrace/millrace/queue/Message" "priority" "I" (.int w7)) (F_group_r0 : Fld Z h0 r0 "com/example/millrace/millrace/queue/Message" "group" "Ljava/lang/String;" u_group_r0) (F_due_r0 : Fld Z h0 r0 "com/example/millrace/millrace/queue/Message" "due" "J" (.long w9)) (F_readySince_r0 : Fld Z h0 r0 "com/example/millrace/millrace/queue/Message" "readySince" "J" (.long w10)) (F_sendBytes_r0 : Fld Z h0 r0 "com/example/millrace/millrace/queue/Message" "sendBytes" "I" (.int w11)) (F_laterBytes_r0 : Fld Z h0 r0 "com/example/millrace/millrace/queue/Message" "laterBytes" "J" (.long w12)) (g_r0 : n0 ≤ r0) :
    MetFree l (⟨"com/example/millrace/millrace/queue/Message", "<init>", "(J[BILjava/lang/String;J)V"⟩ : MethodName) (head1 (Jvm.Cond.code (⟨"com/example/millrace/millrace/queue/Message", "<init>", "(J[BILjava/lang/String;J)V"⟩ : MethodName) prog_20_method_1_code 8 none :: ws) ({ frames := 1, cells := 0, slots := 0, locals := 12 } : Room)) (fun a U => a = #[(.ref r0), (.long q1), (.ref r2), (.int p3), .null, (.long q5)] ∧ Z.Warmed39 U.vm ∧ U.heap = h0) (fun _ _ _ _ _ => True) (fun _ U o U' => ∃ v L, o = .returned v ∧ Q1 Z r0 q1 r2 p3 q5 w5 u_body_r0 w7 u_group_r0 w9 w10 w11 w12 h0 n0 v U'.heap L ∧ FrameEnd U o U' L ({ frames := 1, cells := 0, slots := 0, locals := 12 } : Room).cells ({ frames := 1, cells := 0, slots := 0, locals := 12 } : Room).slots) := by
  refine MetFree.of_bodySF (plainFor_of_name pn0) hisR ?_
  intro p e s m args below meth c s₁ Bd hml0 hP hK
  obtain ⟨rfl, hZ, hh⟩ := hP
  have hx := Bd.exec
  have hby := Bd.bytes
  have hml : c.maxLocals = 8 := hml0
  have hown : s.vm.findClass "com/example/millrace/millrace/queue/Message" = some m.cls := findClass_of_methodNamed Bd.named
  have hnm := (name_of_methodNamed Bd.named Bd.method).1
  have X0 : Stand p l e ({ frames := 1, cells := 0, slots := 0, locals := 12 } : Room) s m #[(.ref r0), (.long q1), (.ref r2), (.int p3), .null, (.long q5)] below meth c s₁ [] 0 0 := Stand.of_body Bd
  have e0 : s₁.heap = h0 := by rw [← hh, Bd.state]; rfl
  have N0 := Fr.nil n0
  have K0 : Keep h0 h0 [r0] := Keep.refl h0 _
  show own_Go p e below s (Q1 Z r0 q1 r2 p3 q5 w5 u_body_r0 w7 u_group_r0 w9 w10 w11 w12 h0 n0) ({ frames := 1, cells := 0, slots := 0, locals := 12 } : Room).cells ({ frames := 1, cells := 0, slots := 0, locals := 12 } : Room).slots (s₁.setTop (entryFrame m #[(.ref r0), (.long q1), (.ref r2), (.int p3), .null, (.long q5)] 8))
  refine own_go (fun t k => castTop (ef_1 m r0 q1 r2 p3 q5) k) ?_
  obtain ⟨T101, X101, e101, st101⟩ := initO X0 hx hZ hown (hw _ (List.mem_of_getElem? (i := 7) rfl)) (hw _ (List.mem_of_getElem? (i := 8) rfl)) (hw _ (List.mem_of_getElem? (i := 9) rfl)) e0 (g := (mkF m 1 #[.val (.ref r0), .val (.long q1), .second, .val (.ref r2), .val (.int p3), .val .null, .val (.long q5), .second] [(.ref r0)])) rfl (by rw [hml]; rfl) rfl (hb hby d1_1) (by decide) (W := 0) (by show 2 * 0 + _ ≤ _; exact Nat.le_of_eq rfl) (by decide)
  obtain ⟨T102, h102, X102, e102, W102, st102⟩ := putF X101 hx hZ hown (host := "") (Or.inl (hw _ (List.mem_of_getElem? (i := 10) rfl))) Via.refl e101 F_id_r0 E_r0 (Or.inr ⟨(hw _ (List.mem_of_getElem? (i := 11) rfl)), rfl, hnm⟩) (hw _ (List.mem_of_getElem? (i := 1) rfl)) (ty := .long) (by decide) rfl rfl (g := (mkF m 6 #[.val (.ref r0), .val (.long q1), .second, .val (.ref r2), .val (.int p3), .val .null, .val (.long q5), .second] [(.long q1), (.ref r0)])) rfl rfl (hb hby d1_6)
  have F103 := E_r0.wr W102
  have F104 := F_id_r0.same W102
  have F105 := F_body_r0.other W102 (Or.inr (slot_ne (Or.inr (hw _ (List.mem_of_getElem? (i := 13) rfl))) (Or.inr (hw _ (List.mem_of_getElem? (i := 11) rfl))) (by decide) (t := (.array .byte)) (t' := .long) (by decide) (by decide)))
  have F106 := F_priority_r0.other W102 (Or.inr (slot_ne (Or.inr (hw _ (List.mem_of_getElem? (i := 15) rfl))) (Or.inr (hw _ (List.mem_of_getElem? (i := 11) rfl))) (by decide) (t := .int) (t' := .long) (by decide) (by decide)))
  have F107 := F_group_r0.other W102 (Or.inr (slot_ne (Or.inr (hw _ (List.mem_of_getElem? (i := 17) rfl))) (Or.inr (hw _ (List.mem_of_getElem? (i := 11) rfl))) (by decide) (t := (.object "java/lang/String")) (t' := .long) (by decide) (by decide)))
  have F108 := F_due_r0.other W102 (Or.inr (slot_ne (Or.inl (hw _ (List.mem_of_getElem? (i := 19) rfl))) (Or.inr (hw _ (List.mem_of_getElem? (i := 11) rfl))) (by decide) (t := .long) (t' := .long) (by decide) (by decide)))
  have F109 := F_readySince_r0.other W102 (Or.inr (slot_ne (Or.inl (hw _ (List.mem_of_getElem? (i := 21) rfl))) (Or.inr (hw _ (List.mem_of_getElem? (i := 11) rfl))) (by decide) (t := .long) (t' := .long) (by decide) (by decide)))
  have F110 := F_sendBytes_r0.other W102 (Or.inr (slot_ne (Or.inl (hw _ (List.mem_of_getElem? (i := 28) rfl))) (Or.inr (hw _ (List.mem_of_getElem? (i := 11) rfl))) (by decide) (t := .int) (t' := .long) (by decide) (by decide)))
  have F111 := F_laterBytes_r0.other W102 (Or.inr (slot_ne (Or.inl (hw _ (List.mem_of_getElem? (i := 35) rfl))) (Or.inr (hw _ (List.mem_of_getElem? (i := 11) rfl))) (by decide) (t := .long) (t' := .long) (by decide) (by decide)))
  have Z112 : n0 ≤ h102.size := Nat.le_trans Z0 (Keep.of_wr W102).1
  have K113 : Keep h0 h102 [r0] := K0.wr W102 (Or.inl (List.mem_of_getElem? (i := 0) rfl))
  have N114 := Fr.snoc X102 N0 g_r0
  obtain ⟨T115, h115, X115, e115, W115, st115⟩ := putF X102 hx hZ hown (host := "") (Or.inl (hw _ (List.mem_of_getElem? (i := 12) rfl))) Via.refl e102 F105 F103 (Or.inr ⟨(hw _ (List.mem_of_getElem? (i := 13) rfl)), rfl, hnm⟩) (hw _ (List.mem_of_getElem? (i := 1) rfl)) (ty := (.array .byte)) (by decide) rfl rfl (g := (mkF m 11 #[.val (.ref r0), .val (.long q1), .second, .val (.ref r2), .val (.int p3), .val .null, .val (.long q5), .second] [(.ref r2), (.ref r0)])) rfl rfl (hb hby d1_11)
  have F116 := F103.wr W115
  have F117 := F104.other W115 (Or.inr (slot_ne (Or.inr (hw _ (List.mem_of_getElem? (i := 11) rfl))) (Or.inr (hw _ (List.mem_of_getElem? (i := 13) rfl))) (by decide) (t := .long) (t' := (.array .byte)) (by decide) (by decide)))
  have F118 := F105.same W115
  have F119 := F106.other W115 (Or.inr (slot_ne (Or.inr (hw _ (List.mem_of_getElem? (i := 15) rfl))) (Or.inr (hw _ (List.mem_of_getElem? (i := 13) rfl))) (by decide) (t := .int) (t' := (.array .byte)) (by decide) (by decide)))
  have F120 := F107.other W115 (Or.inr (slot_ne (Or.inr (hw _ (List.mem_of_getElem? (i := 17) rfl))) (Or.inr (hw _ (List.mem_of_getElem? (i := 13) rfl))) (by decide) (t := (.object "java/lang/String")) (t' := (.array .byte)) (by decide) (by decide)))
  have F121 := F108.other W115 (Or.inr (slot_ne (Or.inl (hw _ (List.mem_of_getElem? (i := 19) rfl))) (Or.inr (hw _ (List.mem_of_getElem? (i := 13) rfl))) (by decide) (t := .long) (t' := (.array .byte)) (by decide) (by decide)))
  have F122 := F109.other W115 (Or.inr (slot_ne (Or.inl (hw _ (List.mem_of_getElem? (i := 21) rfl))) (Or.inr (hw _ (List.mem_of_getElem? (i := 13) rfl))) (by decide) (t := .long) (t' := (.array .byte)) (by decide) (by decide)))
  have F123 := F110.other W115 (Or.inr (slot_ne (Or.inl (hw _ (List.mem_of_getElem? (i := 28) rfl))) (Or.inr (hw _ (List.mem_of_getElem? (i := 13) rfl))) (by decide) (t := .int) (t' := (.array .byte)) (by decide) (by decide)))
  have F124 := F111.other W115 (Or.inr (slot_ne (Or.inl (hw _ (List.mem_of_getElem? (i := 35) rfl))) (Or.inr (hw _ (List.mem_of_getElem? (i := 13) rfl))) (by decide) (t := .long) (t' := (.array .byte)) (by decide) (by decide)))
  have Z125 : n0 ≤ h115.size := Nat.le_trans Z112 (Keep.of_wr W115).1
  have K126 : Keep h0 h115 [r0] := K113.wr W115 (Or.inl (List.mem_of_getElem? (i := 0) rfl))
  have N127 := Fr.snoc X115 N114 g_r0
  obtain ⟨T128, h128, X128, e128, W128, st128⟩ := putF X115 hx hZ hown (host := "") (Or.inl (hw _ (List.mem_of_getElem? (i := 14) rfl))) Via.refl e115 F119 F116 (Or.inr ⟨(hw _ (List.mem_of_getElem? (i := 15) rfl)), rfl, hnm⟩) (hw _ (List.mem_of_getElem? (i := 1) rfl)) (ty := .int) (by decide) rfl rfl (g := (mkF m 17 #[.val (.ref r0), .val (.long q1), .second, .val (.ref r2), .val (.int p3), .val .null, .val (.long q5), .second] [(.int p3), (.ref r0)])) rfl rfl (hb hby d1_17)
  have F129 := F116.wr W128
  have F130 := F117.other W128 (Or.inr (slot_ne (Or.inr (hw _ (List.mem_of_getElem? (i := 11) rfl))) (Or.inr (hw _ (List.mem_of_getElem? (i := 15) rfl))) (by decide) (t := .long) (t' := .int) (by decide) (by decide)))
  have F131 := F118.other W128 (Or.inr (slot_ne (Or.inr (hw _ (List.mem_of_getElem? (i := 13) rfl))) (Or.inr (hw _ (List.mem_of_getElem? (i := 15) rfl))) (by decide) (t := (.array .byte)) (t' := .int) (by decide) (by decide)))
  have F132 := F119.same W128
  have F133 := F120.other W128 (Or.inr (slot_ne (Or.inr (hw _ (List.mem_of_getElem? (i := 17) rfl))) (Or.inr (hw _ (List.mem_of_getElem? (i := 15) rfl))) (by decide) (t := (.object "java/lang/String")) (t' := .int) (by decide) (by decide)))
  have F134 := F121.other W128 (Or.inr (slot_ne (Or.inl (hw _ (List.mem_of_getElem? (i := 19) rfl))) (Or.inr (hw _ (List.mem_of_getElem? (i := 15) rfl))) (by decide) (t := .long) (t' := .int) (by decide) (by decide)))
  have F135 := F122.other W128 (Or.inr (slot_ne (Or.inl (hw _ (List.mem_of_getElem? (i := 21) rfl))) (Or.inr (hw _ (List.mem_of_getElem? (i := 15) rfl))) (by decide) (t := .long) (t' := .int) (by decide) (by decide)))
  have F136 := F123.other W128 (Or.inr (slot_ne (Or.inl (hw _ (List.mem_of_getElem? (i := 28) rfl))) (Or.inr (hw _ (List.mem_of_getElem? (i := 15) rfl))) (by decide) (t := .int) (t' := .int) (by decide) (by decide)))
  have F137 := F124.other W128 (Or.inr (slot_ne (Or.inl (hw _ (List.mem_of_getElem? (i := 35) rfl))) (Or.inr (hw _ (List.mem_of_getElem? (i := 15) rfl))) (by decide) (t := .long) (t' := .int) (by decide) (by decide)))
  have Z138 : n0 ≤ h128.size := Nat.le_trans Z125 (Keep.of_wr W128).1
  have K139 : Keep h0 h128 [r0] := K126.wr W128 (Or.inl (List.mem_of_getElem? (i := 0) rfl))
  have N140 := Fr.snoc X128 N127 g_r0
  obtain ⟨T141, h141, X141, e141, W141, st141⟩ := putF X128 hx hZ hown (host := "") (Or.inl (hw _ (List.mem_of_getElem? (i := 16) rfl))) Via.refl e128 F133 F129 (Or.inr ⟨(hw _ (List.mem_of_getElem? (i := 17) rfl)), rfl, hnm⟩) (hw _ (List.mem_of_getElem? (i := 1) rfl)) (ty := (.object "java/lang/String")) (by decide) rfl rfl (g := (mkF m 23 #[.val (.ref r0), .val (.long q1), .second, .val (.ref r2), .val (.int p3), .val .null, .val (.long q5), .second] [.null, (.ref r0)])) rfl rfl (hb hby d1_23)
  have F142 := F129.wr W141
  have F143 := F130.other W141 (Or.inr (slot_ne (Or.inr (hw _ (List.mem_of_getElem? (i := 11) rfl))) (Or.inr (hw _ (List.mem_of_getElem? (i := 17) rfl))) (by decide) (t := .long) (t' := (.object "java/lang/String")) (by decide) (by decide)))
  have F144 := F131.other W141 (Or.inr (slot_ne (Or.inr (hw _ (List.mem_of_getElem? (i := 13) rfl))) (Or.inr (hw _ (List.mem_of_getElem? (i := 17) rfl))) (by decide) (t := (.array .byte)) (t' := (.object "java/lang/String")) (by decide) (by decide)))
  have F145 := F132.other W141 (Or.inr (slot_ne (Or.inr (hw _ (List.mem_of_getElem? (i := 15) rfl))) (Or.inr (hw _ (List.mem_of_getElem? (i := 17) rfl))) (by decide) (t := .int) (t' := (.object "java/lang/String")) (by decide) (by decide)))
  have F146 := F133.same W141
  have F147 := F134.other W141 (Or.inr (slot_ne (Or.inl (hw _ (List.mem_of_getElem? (i := 19) rfl))) (Or.inr (hw _ (List.mem_of_getElem? (i := 17) rfl))) (by decide) (t := .long) (t' := (.object "java/lang/String")) (by decide) (by decide)))
  have F148 := F135.other W141 (Or.inr (slot_ne (Or.inl (hw _ (List.mem_of_getElem? (i := 21) rfl))) (Or.inr (hw _ (List.mem_of_getElem? (i := 17) rfl))) (by decide) (t := .long) (t' := (.object "java/lang/String")) (by decide) (by decide)))
  have F149 := F136.other W141 (Or.inr (slot_ne (Or.inl (hw _ (List.mem_of_getElem? (i := 28) rfl))) (Or.inr (hw _ (List.mem_of_getElem? (i := 17) rfl))) (by decide) (t := .int) (t' := (.object "java/lang/String")) (by decide) (by decide)))
  have F150 := F137.other W141 (Or.inr (slot_ne (Or.inl (hw _ (List.mem_of_getElem? (i := 35) rfl))) (Or.inr (hw _ (List.mem_of_getElem? (i := 17) rfl))) (by decide) (t := .long) (t' := (.object "java/lang/String")) (by decide) (by decide)))
  have Z151 : n0 ≤ h141.size := Nat.le_trans Z138 (Keep.of_wr W141).1
  have K152 : Keep h0 h141 [r0] := K139.wr W141 (Or.inl (List.mem_of_getElem? (i := 0) rfl))
  have N153 := Fr.snoc X141 N140 g_r0
  obtain ⟨T154, h154, X154, e154, W154, st154⟩ := putF X141 hx hZ hown (host := "") (Or.inl (hw _ (List.mem_of_getElem? (i := 18) rfl))) Via.refl e141 F147 F142 (Or.inl (hw _ (List.mem_of_getElem? (i := 19) rfl))) (hw _ (List.mem_of_getElem? (i := 1) rfl)) (ty := .long) (by decide) rfl rfl (g := (mkF m 29 #[.val (.ref r0), .val (.long q1), .second, .val (.ref r2), .val (.int p3), .val .null, .val (.long q5), .second] [(.long q5), (.ref r0)])) rfl rfl (hb hby d1_29)
  have F155 := F142.wr W154
  have F156 := F143.other W154 (Or.inr (slot_ne (Or.inr (hw _ (List.mem_of_getElem? (i := 11) rfl))) (Or.inl (hw _ (List.mem_of_getElem? (i := 19) rfl))) (by decide) (t := .long) (t' := .long) (by decide) (by decide)))
  have F157 := F144.other W154 (Or.inr (slot_ne (Or.inr (hw _ (List.mem_of_getElem? (i := 13) rfl))) (Or.inl (hw _ (List.mem_of_getElem? (i := 19) rfl))) (by decide) (t := (.array .byte)) (t' := .long) (by decide) (by decide)))
  have F158 := F145.other W154 (Or.inr (slot_ne (Or.inr (hw _ (List.mem_of_getElem? (i := 15) rfl))) (Or.inl (hw _ (List.mem_of_getElem? (i := 19) rfl))) (by decide) (t := .int) (t' := .long) (by decide) (by decide)))
  have F159 := F146.other W154 (Or.inr (slot_ne (Or.inr (hw _ (List.mem_of_getElem? (i := 17) rfl))) (Or.inl (hw _ (List.mem_of_getElem? (i := 19) rfl))) (by decide) (t := (.object "java/lang/String")) (t' := .long) (by decide) (by decide)))
  have F160 := F147.same W154
  have F161 := F148.other W154 (Or.inr (slot_ne (Or.inl (hw _ (List.mem_of_getElem? (i := 21) rfl))) (Or.inl (hw _ (List.mem_of_getElem? (i := 19) rfl))) (by decide) (t := .long) (t' := .long) (by decide) (by decide)))
  have F162 := F149.other W154 (Or.inr (slot_ne (Or.inl (hw _ (List.mem_of_getElem? (i := 28) rfl))) (Or.inl (hw _ (List.mem_of_getElem? (i := 19) rfl))) (by decide) (t := .int) (t' := .long) (by decide) (by decide)))
  have F163 := F150.other W154 (Or.inr (slot_ne (Or.inl (hw _ (List.mem_of_getElem? (i := 35) rfl))) (Or.inl (hw _ (List.mem_of_getElem? (i := 19) rfl))) (by decide) (t := .long) (t' := .long) (by decide) (by decide)))
  have Z164 : n0 ≤ h154.size := Nat.le_trans Z151 (Keep.of_wr W154).1
  have K165 : Keep h0 h154 [r0] := K152.wr W154 (Or.inl (List.mem_of_getElem? (i := 0) rfl))
  have N166 := Fr.snoc X154 N153 g_r0
  obtain ⟨T167, h167, X167, e167, W167, st167⟩ := putF X154 hx hZ hown (host := "") (Or.inl (hw _ (List.mem_of_getElem? (i := 20) rfl))) Via.refl e154 F161 F155 (Or.inl (hw _ (List.mem_of_getElem? (i := 21) rfl))) (hw _ (List.mem_of_getElem? (i := 1) rfl)) (ty := .long) (by decide) rfl rfl (g := (mkF m 35 #[.val (.ref r0), .val (.long q1), .second, .val (.ref r2), .val (.int p3), .val .null, .val (.long q5), .second] [(.long q5), (.ref r0)])) rfl rfl (hb hby d1_35)
  have F168 := F155.wr W167
  have F169 := F156.other W167 (Or.inr (slot_ne (Or.inr (hw _ (List.mem_of_getElem? (i := 11) rfl))) (Or.inl (hw _ (List.mem_of_getElem? (i := 21) rfl))) (by decide) (t := .long) (t' := .long) (by decide) (by decide)))
  have F170 := F157.other W167 (Or.inr (slot_ne (Or.inr (hw _ (List.mem_of_getElem? (i := 13) rfl))) (Or.inl (hw _ (List.mem_of_getElem? (i := 21) rfl))) (by decide) (t := (.array .byte)) (t' := .long) (by decide) (by decide)))
  have F171 := F158.other W167 (Or.inr (slot_ne (Or.inr (hw _ (List.mem_of_getElem? (i := 15) rfl))) (Or.inl (hw _ (List.mem_of_getElem? (i := 21) rfl))) (by decide) (t := .int) (t' := .long) (by decide) (by decide)))
  have F172 := F159.other W167 (Or.inr (slot_ne (Or.inr (hw _ (List.mem_of_getElem? (i := 17) rfl))) (Or.inl (hw _ (List.mem_of_getElem? (i := 21) rfl))) (by decide) (t := (.object "java/lang/String")) (t' := .long) (by decide) (by decide)))
  have F173 := F160.other W167 (Or.inr (slot_ne (Or.inl (hw _ (List.mem_of_getElem? (i := 19) rfl))) (Or.inl (hw _ (List.mem_of_getElem? (i := 21) rfl))) (by decide) (t := .long) (t' := .long) (by decide) (by decide)))
  have F174 := F161.same W167
  have F175 := F162.other W167 (Or.inr (slot_ne (Or.inl (hw _ (List.mem_of_getElem? (i := 28) rfl))) (Or.inl (hw _ (List.mem_of_getElem? (i := 21) rfl))) (by decide) (t := .int) (t' := .long) (by decide) (by decide)))
  have F176 := F163.other W167 (Or.inr (slot_ne (Or.inl (hw _ (List.mem_of_getElem? (i := 35) rfl))) (Or.inl (hw _ (List.mem_of_getElem? (i := 21) rfl))) (by decide) (t := .long) (t' := .long) (by decide) (by decide)))
  have Z177 : n0 ≤ h167.size := Nat.le_trans Z164 (Keep.of_wr W167).1
  have K178 : Keep h0 h167 [r0] := K165.wr W167 (Or.inl (List.mem_of_getElem? (i := 0) rfl))
  have N179 := Fr.snoc X167 N166 g_r0
  have hgo180 : ∀ t, Steps p.tables e below (T167.setTop (mkF m 38 #[.val (.ref r0), .val (.long q1), .second, .val (.ref r2), .val (.int p3), .val .null, .val (.long q5), .second] [])) t → Steps p.tables e below (s₁.setTop (mkF m 0 #[.val (.ref r0), .val (.long q1), .second, .val (.ref r2), .val (.int p3), .val .null, .val (.long q5), .second] [])) t := by
    intro t kt
    show Steps p.tables e below (s₁.setTop (mkF m 0 #[.val (.ref r0), .val (.long q1), .second, .val (.ref r2), .val (.int p3), .val .null, .val (.long q5), .second] [])) _
    refine XS.aloadN X0.here hx rfl (hb hby d1_0) rfl rfl ?_
    show Steps p.tables e below (s₁.setTop (mkF m 1 #[.val (.ref r0), .val (.long q1), .second, .val (.ref r2), .val (.int p3), .val .null, .val (.long q5), .second] [(.ref r0)])) _
    refine st101 _ ?_
    show Steps p.tables e below (T101.setTop (mkF m 4 #[.val (.ref r0), .val (.long q1), .second, .val (.ref r2), .val (.int p3), .val .null, .val (.long q5), .second] [])) _
    refine XS.aloadN X101.here hx rfl (hb hby d1_4) rfl rfl ?_
    show Steps p.tables e below (T101.setTop (mkF m 5 #[.val (.ref r0), .val (.long q1), .second, .val (.ref r2), .val (.int p3), .val .null, .val (.long q5), .second] [(.ref r0)])) _
    refine XS.lloadN X101.here hx rfl (hb hby d1_5) rfl ?_
    show Steps p.tables e below (T101.setTop (mkF m 6 #[.val (.ref r0), .val (.long q1), .second, .val (.ref r2), .val (.int p3), .val .null, .val (.long q5), .second] [(.long q1), (.ref r0)])) _
    refine st102 _ ?_
    show Steps p.tables e below (T102.setTop (mkF m 9 #[.val (.ref r0), .val (.long q1), .second, .val (.ref r2), .val (.int p3), .val .null, .val (.long q5), .second] [])) _
    refine XS.aloadN X102.here hx rfl (hb hby d1_9) rfl rfl ?_
    show Steps p.tables e below (T102.setTop (mkF m 10 #[.val (.ref r0), .val (.long q1), .second, .val (.ref r2), .val (.int p3), .val .null, .val (.long q5), .second] [(.ref r0)])) _
    refine XS.aloadN X102.here hx rfl (hb hby d1_10) rfl rfl ?_
    show Steps p.tables e below (T102.setTop (mkF m 11 #[.val (.ref r0), .val (.long q1), .second, .val (.ref r2), .val (.int p3), .val .null, .val (.long q5), .second] [(.ref r2), (.ref r0)])) _
    refine st115 _ ?_
    show Steps p.tables e below (T115.setTop (mkF m 14 #[.val (.ref r0), .val (.long q1), .second, .val (.ref r2), .val (.int p3), .val .null, .val (.long q5), .second] [])) _
    refine XS.aloadN X115.here hx rfl (hb hby d1_14) rfl rfl ?_
    show Steps p.tables e below (T115.setTop (mkF m 15 #[.val (.ref r0), .val (.long q1), .second, .val (.ref r2), .val (.int p3), .val .null, .val (.long q5), .second] [(.ref r0)])) _
    refine XS.iload X115.here hx rfl (hb hby d1_15) rfl ?_
    show Steps p.tables e below (T115.setTop (mkF m 17 #[.val (.ref r0), .val (.long q1), .second, .val (.ref r2), .val (.int p3), .val .null, .val (.long q5), .second] [(.int p3), (.ref r0)])) _
    refine st128 _ ?_
    show Steps p.tables e below (T128.setTop (mkF m 20 #[.val (.ref r0), .val (.long q1), .second, .val (.ref r2), .val (.int p3), .val .null, .val (.long q5), .second] [])) _
    refine XS.aloadN X128.here hx rfl (hb hby d1_20) rfl rfl ?_
    show Steps p.tables e below (T128.setTop (mkF m 21 #[.val (.ref r0), .val (.long q1), .second, .val (.ref r2), .val (.int p3), .val .null, .val (.long q5), .second] [(.ref r0)])) _
    refine XS.aload X128.here hx rfl (hb hby d1_21) rfl rfl ?_
    show Steps p.tables e below (T128.setTop (mkF m 23 #[.val (.ref r0), .val (.long q1), .second, .val (.ref r2), .val (.int p3), .val .null, .val (.long q5), .second] [.null, (.ref r0)])) _
    refine st141 _ ?_
    show Steps p.tables e below (T141.setTop (mkF m 26 #[.val (.ref r0), .val (.long q1), .second, .val (.ref r2), .val (.int p3), .val .null, .val (.long q5), .second] [])) _
    refine XS.aloadN X141.here hx rfl (hb hby d1_26) rfl rfl ?_
    show Steps p.tables e below (T141.setTop (mkF m 27 #[.val (.ref r0), .val (.long q1), .second, .val (.ref r2), .val (.int p3), .val .null, .val (.long q5), .second] [(.ref r0)])) _
    refine XS.lload X141.here hx rfl (hb hby d1_27) rfl ?_
    show Steps p.tables e below (T141.setTop (mkF m 29 #[.val (.ref r0), .val (.long q1), .second, .val (.ref r2), .val (.int p3), .val .null, .val (.long q5), .second] [(.long q5), (.ref r0)])) _
    refine st154 _ ?_
    show Steps p.tables e below (T154.setTop (mkF m 32 #[.val (.ref r0), .val (.long q1), .second, .val (.ref r2), .val (.int p3), .val .null, .val (.long q5), .second] [])) _
    refine XS.aloadN X154.here hx rfl (hb hby d1_32) rfl rfl ?_
    show Steps p.tables e below (T154.setTop (mkF m 33 #[.val (.ref r0), .val (.long q1), .second, .val (.ref r2), .val (.int p3), .val .null, .val (.long q5), .second] [(.ref r0)])) _
    refine XS.lload X154.here hx rfl (hb hby d1_33) rfl ?_
    show Steps p.tables e below (T154.setTop (mkF m 35 #[.val (.ref r0), .val (.long q1), .second, .val (.ref r2), .val (.int p3), .val .null, .val (.long q5), .second] [(.long q5), (.ref r0)])) _
    refine st167 _ ?_
    exact kt
  refine own_go hgo180 ?_
  exact own_retV X167 hx Bd.returns Bd.notSynchronized (hb hby d1_38) (by decide) (by decide) (by rw [e167]; exact ⟨(by rfl), N179, K178, F168, (by exact F169), (by exact F170), (by exact F171), (by exact F172), (by exact F173), (by exact F174), (by exact F175), (by exact F176)⟩)
theorem d3_0 : decode prog_20_method_21_code 0 = .ok (.aload_n 0, 1) := by decide +kernel
theorem d3_1 : decode prog_20_method_21_code 1 = .ok (.iload_n 1, 1) := by decide +kernel
theorem d3_2 : decode prog_20_method_21_code 2 = .ok (.putfield 46, 3) := by decide +kernel
theorem d3_5 : decode prog_20_method_21_code 5 = .ok (.return_, 1) := by decide +kernel
theorem ef_3 (m : MethodId) (r0 : Addr) (p1 : Int32) : entryFrame m #[(.ref r0), (.int p1)] 2 = mkF m 0 #[.val (.ref r0), .val (.int p1)] [] := by (first | (simp [entryFrame, mkF, argsToLocals, Value.category]; done) | rfl)
def Q3 (Z : State) (r0 : Addr) (p1 : Int32) (w2 : Int32) (w3 : Int64) (u_body_r0 : Value) (w5 : Int32) (u_group_r0 : Value) (w7 : Int64) (w8 : Int64) (w9 : Int64) (h0 : Heap) (n0 : Nat) (v : Option Value) (h : Heap) (L : List Loc) : Prop := v = none ∧ Fr n0 L ∧ Keep h0 h [r0] ∧ Exa Z h r0 "com/example/millrace/millrace/queue/Message" ∧ Fld Z h r0 "com/example/millrace/millrace/queue/Message" "sendBytes" "I" (.int p1) ∧ Fld Z h r0 "com/example/millrace/millrace/queue/Message" "id" "J" (.long w3) ∧ Fld Z h r0 "com/example/millrace/millrace/queue/Message" "body" "[B" u_body_r0 ∧ Fld Z h r0 "com/example/millrace/millrace/queue/Message" "priority" "I" (.int w5) ∧ Fld Z h r0 "com/example/millrace/millrace/queue/Message" "group" "Ljava/lang/String;" u_group_r0 ∧ Fld Z h r0 "com/example/millrace/millrace/queue/Message" "due" "J" (.long w7) ∧ Fld Z h r0 "com/example/millrace/millrace/queue/Message" "readySince" "J" (.long w8) ∧ Fld Z h r0 "com/example/millrace/millrace/queue/Message" "laterBytes" "J" (.long w9)
set_option maxRecDepth 65536 in
set_option maxHeartbeats 40000000 in
theorem rm3 (l : Launch) (Z : State) (a0 : Array Value) (hw : ∀ d ∈ tables_1, d.before a0 Z = true) (ws : List Jvm.Cond) (r0 : Addr) (p1 : Int32) (w2 : Int32) (w3 : Int64) (u_body_r0 : Value) (w5 : Int32) (u_group_r0 : Value) (w7 : Int64) (w8 : Int64) (w9 : Int64) (h0 : Heap) (n0 : Nat) (Z0 : n0 ≤ h0.size) (E_r0 : Exa Z h0 r0 "com/example/millrace/millrace/queue/Message") (F_sendBytes_r0 : Fld Z h0 r0 "com/example/millrace/millrace/queue/Message" "sendBytes" "I" (.int w2)) (F_id_r0 : Fld Z h0 r0 "com/example/millrace/millrace/queue/Message" "id" "J" (.long w3)) (F_body_r0 : Fld Z h0 r0 "com/example/millrace/millrace/queue/Message" "body" "[B" u_body_r0) (F_priority_r0 : Fld Z h0 r0 "com/example/millrace/millrace/queue/Message" "priority" "I" (.int w5)) (F_group_r0 : Fld Z h0 r0 "com/example/millrace/millrace/queue/Message" "group" "Ljava/lang/String;" u_group_r0) (F_due_r0 : Fld Z h0 r0 "com/example/millrace/millrace/queue/Message" "due" "J" (.long w7)) (F_readySince_r0 : Fld Z h0 r0 "com/example/millrace/millrace/queue/Message" "readySince" "J" (.long w8)) (F_laterBytes_r0 : Fld Z h0 r0 "com/example/millrace/millrace/queue/Message" "laterBytes" "J" (.long w9)) (g_r0 : n0 ≤ r0) :
    MetFree l (⟨"com/example/millrace/millrace/queue/Message", "setSendBytes", "(I)V"⟩ : MethodName) (head1 (Jvm.Cond.code (⟨"com/example/millrace/millrace/queue/Message", "setSendBytes", "(I)V"⟩ : MethodName) prog_20_method_21_code 2 none :: ws) ({ frames := 0, cells := 0, slots := 0, locals := 0 } : Room)) (fun a U => a = #[(.ref r0), (.int p1)] ∧ Z.Warmed39 U.vm ∧ U.heap = h0) (fun _ _ _ _ _ => True) (fun _ U o U' => ∃ v L, o = .returned v ∧ Q3 Z r0 p1 w2 w3 u_body_r0 w5 u_group_r0 w7 w8 w9 h0 n0 v U'.heap L ∧ FrameEnd U o U' L ({ frames := 0, cells := 0, slots := 0, locals := 0 } : Room).cells ({ frames := 0, cells := 0, slots := 0, locals := 0 } : Room).slots) := by
  refine MetFree.of_bodySF (plainFor_of_name pn0) hisR ?_
  intro p e s m args below meth c s₁ Bd hml0 hP hK
  obtain ⟨rfl, hZ, hh⟩ := hP
  have hx := Bd.exec
  have hby := Bd.bytes
  have hml : c.maxLocals = 2 := hml0
  have hown : s.vm.findClass "com/example/millrace/millrace/queue/Message" = some m.cls := findClass_of_methodNamed Bd.named
  have hnm := (name_of_methodNamed Bd.named Bd.method).1
  have X0 : Stand p l e ({ frames := 0, cells := 0, slots := 0, locals := 0 } : Room) s m #[(.ref r0), (.int p1)] below meth c s₁ [] 0 0 := Stand.of_body Bd
  have e0 : s₁.heap = h0 := by rw [← hh, Bd.state]; rfl
  have N0 := Fr.nil n0
  have K0 : Keep h0 h0 [r0] := Keep.refl h0 _
  show own_Go p e below s (Q3 Z r0 p1 w2 w3 u_body_r0 w5 u_group_r0 w7 w8 w9 h0 n0) ({ frames := 0, cells := 0, slots := 0, locals := 0 } : Room).cells ({ frames := 0, cells := 0, slots := 0, locals := 0 } : Room).slots (s₁.setTop (entryFrame m #[(.ref r0), (.int p1)] 2))
  refine own_go (fun t k => castTop (ef_3 m r0 p1) k) ?_
  obtain ⟨T101, h101, X101, e101, W101, st101⟩ := putF X0 hx hZ hown (host := "") (Or.inl (hw _ (List.mem_of_getElem? (i := 27) rfl))) Via.refl e0 F_sendBytes_r0 E_r0 (Or.inl (hw _ (List.mem_of_getElem? (i := 28) rfl))) (hw _ (List.mem_of_getElem? (i := 1) rfl)) (ty := .int) (by decide) rfl rfl (g := (mkF m 2 #[.val (.ref r0), .val (.int p1)] [(.int p1), (.ref r0)])) rfl rfl (hb hby d3_2)
  have F102 := E_r0.wr W101
  have F103 := F_sendBytes_r0.same W101
  have F104 := F_id_r0.other W101 (Or.inr (slot_ne (Or.inr (hw _ (List.mem_of_getElem? (i := 11) rfl))) (Or.inl (hw _ (List.mem_of_getElem? (i := 28) rfl))) (by decide) (t := .long) (t' := .int) (by decide) (by decide)))
  have F105 := F_body_r0.other W101 (Or.inr (slot_ne (Or.inr (hw _ (List.mem_of_getElem? (i := 13) rfl))) (Or.inl (hw _ (List.mem_of_getElem? (i := 28) rfl))) (by decide) (t := (.array .byte)) (t' := .int) (by decide) (by decide)))
  have F106 := F_priority_r0.other W101 (Or.inr (slot_ne (Or.inr (hw _ (List.mem_of_getElem? (i := 15) rfl))) (Or.inl (hw _ (List.mem_of_getElem? (i := 28) rfl))) (by decide) (t := .int) (t' := .int) (by decide) (by decide)))
  have F107 := F_group_r0.other W101 (Or.inr (slot_ne (Or.inr (hw _ (List.mem_of_getElem? (i := 17) rfl))) (Or.inl (hw _ (List.mem_of_getElem? (i := 28) rfl))) (by decide) (t := (.object "java/lang/String")) (t' := .int) (by decide) (by decide)))
  have F108 := F_due_r0.other W101 (Or.inr (slot_ne (Or.inl (hw _ (List.mem_of_getElem? (i := 19) rfl))) (Or.inl (hw _ (List.mem_of_getElem? (i := 28) rfl))) (by decide) (t := .long) (t' := .int) (by decide) (by decide)))
  have F109 := F_readySince_r0.other W101 (Or.inr (slot_ne (Or.inl (hw _ (List.mem_of_getElem? (i := 21) rfl))) (Or.inl (hw _ (List.mem_of_getElem? (i := 28) rfl))) (by decide) (t := .long) (t' := .int) (by decide) (by decide)))
  have F110 := F_laterBytes_r0.other W101 (Or.inr (slot_ne (Or.inl (hw _ (List.mem_of_getElem? (i := 35) rfl))) (Or.inl (hw _ (List.mem_of_getElem? (i := 28) rfl))) (by decide) (t := .long) (t' := .int) (by decide) (by decide)))
  have Z111 : n0 ≤ h101.size := Nat.le_trans Z0 (Keep.of_wr W101).1
  have K112 : Keep h0 h101 [r0] := K0.wr W101 (Or.inl (List.mem_of_getElem? (i := 0) rfl))
  have N113 := Fr.snoc X101 N0 g_r0
  have hgo114 : ∀ t, Steps p.tables e below (T101.setTop (mkF m 5 #[.val (.ref r0), .val (.int p1)] [])) t → Steps p.tables e below (s₁.setTop (mkF m 0 #[.val (.ref r0), .val (.int p1)] [])) t := by
    intro t kt
    show Steps p.tables e below (s₁.setTop (mkF m 0 #[.val (.ref r0), .val (.int p1)] [])) _
    refine XS.aloadN X0.here hx rfl (hb hby d3_0) rfl rfl ?_
    show Steps p.tables e below (s₁.setTop (mkF m 1 #[.val (.ref r0), .val (.int p1)] [(.ref r0)])) _
    refine XS.iloadN X0.here hx rfl (hb hby d3_1) rfl ?_
    show Steps p.tables e below (s₁.setTop (mkF m 2 #[.val (.ref r0), .val (.int p1)] [(.int p1), (.ref r0)])) _
    refine st101 _ ?_
    exact kt
  refine own_go hgo114 ?_
  exact own_retV X101 hx Bd.returns Bd.notSynchronized (hb hby d3_5) (by decide) (by decide) (by rw [e101]; exact ⟨(by rfl), N113, K112, F102, (by exact F103), (by exact F104), (by exact F105), (by exact F106), (by exact F107), (by exact F108), (by exact F109), (by exact F110)⟩)
theorem d4_0 : decode prog_20_method_22_code 0 = .ok (.aload_n 0, 1) := by decide +kernel
theorem d4_1 : decode prog_20_method_22_code 1 = .ok (.dup, 1) := by decide +kernel
theorem d4_2 : decode prog_20_method_22_code 2 = .ok (.getfield 49, 3) := by decide +kernel
theorem d4_5 : decode prog_20_method_22_code 5 = .ok (.lload_n 1, 1) := by decide +kernel
theorem d4_6 : decode prog_20_method_22_code 6 = .ok (.ladd, 1) := by decide +kernel
theorem d4_7 : decode prog_20_method_22_code 7 = .ok (.putfield 49, 3) := by decide +kernel
theorem d4_10 : decode prog_20_method_22_code 10 = .ok (.return_, 1) := by decide +kernel
theorem ef_4 (m : MethodId) (r0 : Addr) (q1 : Int64) : entryFrame m #[(.ref r0), (.long q1)] 3 = mkF m 0 #[.val (.ref r0), .val (.long q1), .second] [] := by (first | (simp [entryFrame, mkF, argsToLocals, Value.category]; done) | rfl)
def Q4 (Z : State) (r0 : Addr) (q1 : Int64) (w2 : Int64) (w3 : Int64) (u_body_r0 : Value) (w5 : Int32) (u_group_r0 : Value) (w7 : Int64) (w8 : Int64) (w9 : Int32) (h0 : Heap) (n0 : Nat) (v : Option Value) (h : Heap) (L : List Loc) : Prop := v = none ∧ Fr n0 L ∧ Keep h0 h [r0] ∧ Exa Z h r0 "com/example/millrace/millrace/queue/Message" ∧ Fld Z h r0 "com/example/millrace/millrace/queue/Message" "laterBytes" "J" (.long (w2 + q1)) ∧ Fld Z h r0 "com/example/millrace/millrace/queue/Message" "id" "J" (.long w3) ∧ Fld Z h r0 "com/example/millrace/millrace/queue/Message" "body" "[B" u_body_r0 ∧ Fld Z h r0 "com/example/millrace/millrace/queue/Message" "priority" "I" (.int w5) ∧ Fld Z h r0 "com/example/millrace/millrace/queue/Message" "group" "Ljava/lang/String;" u_group_r0 ∧ Fld Z h r0 "com/example/millrace/millrace/queue/Message" "due" "J" (.long w7) ∧ Fld Z h r0 "com/example/millrace/millrace/queue/Message" "readySince" "J" (.long w8) ∧ Fld Z h r0 "com/example/millrace/millrace/queue/Message" "sendBytes" "I" (.int w9)
set_option maxRecDepth 65536 in
set_option maxHeartbeats 40000000 in
theorem rm4 (l : Launch) (Z : State) (a0 : Array Value) (hw : ∀ d ∈ tables_1, d.before a0 Z = true) (ws : List Jvm.Cond) (r0 : Addr) (q1 : Int64) (w2 : Int64) (w3 : Int64) (u_body_r0 : Value) (w5 : Int32) (u_group_r0 : Value) (w7 : Int64) (w8 : Int64) (w9 : Int32) (h0 : Heap) (n0 : Nat) (Z0 : n0 ≤ h0.size) (F_laterBytes_r0 : Fld Z h0 r0 "com/example/millrace/millrace/queue/Message" "laterBytes" "J" (.long w2)) (E_r0 : Exa Z h0 r0 "com/example/millrace/millrace/queue/Message") (F_id_r0 : Fld Z h0 r0 "com/example/millrace/millrace/queue/Message" "id" "J" (.long w3)) (F_body_r0 : Fld Z h0 r0 "com/example/millrace/millrace/queue/Message" "body" "[B" u_body_r0) (F_priority_r0 : Fld Z h0 r0 "com/example/millrace/millrace/queue/Message" "priority" "I" (.int w5)) (F_group_r0 : Fld Z h0 r0 "com/example/millrace/millrace/queue/Message" "group" "Ljava/lang/String;" u_group_r0) (F_due_r0 : Fld Z h0 r0 "com/example/millrace/millrace/queue/Message" "due" "J" (.long w7)) (F_readySince_r0 : Fld Z h0 r0 "com/example/millrace/millrace/queue/Message" "readySince" "J" (.long w8)) (F_sendBytes_r0 : Fld Z h0 r0 "com/example/millrace/millrace/queue/Message" "sendBytes" "I" (.int w9)) (g_r0 : n0 ≤ r0) :
    MetFree l (⟨"com/example/millrace/millrace/queue/Message", "addJournalBytes", "(J)V"⟩ : MethodName) (head1 (Jvm.Cond.code (⟨"com/example/millrace/millrace/queue/Message", "addJournalBytes", "(J)V"⟩ : MethodName) prog_20_method_22_code 3 none :: ws) ({ frames := 0, cells := 0, slots := 0, locals := 0 } : Room)) (fun a U => a = #[(.ref r0), (.long q1)] ∧ Z.Warmed39 U.vm ∧ U.heap = h0) (fun _ _ _ _ _ => True) (fun _ U o U' => ∃ v L, o = .returned v ∧ Q4 Z r0 q1 w2 w3 u_body_r0 w5 u_group_r0 w7 w8 w9 h0 n0 v U'.heap L ∧ FrameEnd U o U' L ({ frames := 0, cells := 0, slots := 0, locals := 0 } : Room).cells ({ frames := 0, cells := 0, slots := 0, locals := 0 } : Room).slots) := by
  refine MetFree.of_bodySF (plainFor_of_name pn0) hisR ?_
  intro p e s m args below meth c s₁ Bd hml0 hP hK
  obtain ⟨rfl, hZ, hh⟩ := hP
  have hx := Bd.exec
  have hby := Bd.bytes
  have hml : c.maxLocals = 3 := hml0
  have hown : s.vm.findClass "com/example/millrace/millrace/queue/Message" = some m.cls := findClass_of_methodNamed Bd.named
  have hnm := (name_of_methodNamed Bd.named Bd.method).1
  have X0 : Stand p l e ({ frames := 0, cells := 0, slots := 0, locals := 0 } : Room) s m #[(.ref r0), (.long q1)] below meth c s₁ [] 0 0 := Stand.of_body Bd
  have e0 : s₁.heap = h0 := by rw [← hh, Bd.state]; rfl
  have N0 := Fr.nil n0
  have K0 : Keep h0 h0 [r0] := Keep.refl h0 _
  show own_Go p e below s (Q4 Z r0 q1 w2 w3 u_body_r0 w5 u_group_r0 w7 w8 w9 h0 n0) ({ frames := 0, cells := 0, slots := 0, locals := 0 } : Room).cells ({ frames := 0, cells := 0, slots := 0, locals := 0 } : Room).slots (s₁.setTop (entryFrame m #[(.ref r0), (.long q1)] 3))
  refine own_go (fun t k => castTop (ef_4 m r0 q1) k) ?_
  obtain ⟨T101, X101, e101, st101⟩ := getF X0 hx hZ hown (host := "") (Or.inl (hw _ (List.mem_of_getElem? (i := 34) rfl))) Via.refl e0 F_laterBytes_r0 (g := (mkF m 2 #[.val (.ref r0), .val (.long q1), .second] [(.ref r0), (.ref r0)])) rfl rfl (hb hby d4_2)
  obtain ⟨v1, hv1⟩ : ∃ z : Int64, z = (w2 + q1) := ⟨_, rfl⟩
  obtain ⟨T102, h102, X102, e102, W102, st102⟩ := putF X101 hx hZ hown (host := "") (Or.inl (hw _ (List.mem_of_getElem? (i := 34) rfl))) Via.refl e101 F_laterBytes_r0 E_r0 (Or.inl (hw _ (List.mem_of_getElem? (i := 35) rfl))) (hw _ (List.mem_of_getElem? (i := 1) rfl)) (ty := .long) (by decide) rfl rfl (g := (mkF m 7 #[.val (.ref r0), .val (.long q1), .second] [(.long v1), (.ref r0)])) rfl rfl (hb hby d4_7)
  have F103 := F_laterBytes_r0.same W102
  have F104 := E_r0.wr W102
  have F105 := F_id_r0.other W102 (Or.inr (slot_ne (Or.inr (hw _ (List.mem_of_getElem? (i := 11) rfl))) (Or.inl (hw _ (List.mem_of_getElem? (i := 35) rfl))) (by decide) (t := .long) (t' := .long) (by decide) (by decide)))
  have F106 := F_body_r0.other W102 (Or.inr (slot_ne (Or.inr (hw _ (List.mem_of_getElem? (i := 13) rfl))) (Or.inl (hw _ (List.mem_of_getElem? (i := 35) rfl))) (by decide) (t := (.array .byte)) (t' := .long) (by decide) (by decide)))
  have F107 := F_priority_r0.other W102 (Or.inr (slot_ne (Or.inr (hw _ (List.mem_of_getElem? (i := 15) rfl))) (Or.inl (hw _ (List.mem_of_getElem? (i := 35) rfl))) (by decide) (t := .int) (t' := .long) (by decide) (by decide)))
  have F108 := F_group_r0.other W102 (Or.inr (slot_ne (Or.inr (hw _ (List.mem_of_getElem? (i := 17) rfl))) (Or.inl (hw _ (List.mem_of_getElem? (i := 35) rfl))) (by decide) (t := (.object "java/lang/String")) (t' := .long) (by decide) (by decide)))
  have F109 := F_due_r0.other W102 (Or.inr (slot_ne (Or.inl (hw _ (List.mem_of_getElem? (i := 19) rfl))) (Or.inl (hw _ (List.mem_of_getElem? (i := 35) rfl))) (by decide) (t := .long) (t' := .long) (by decide) (by decide)))
  have F110 := F_readySince_r0.other W102 (Or.inr (slot_ne (Or.inl (hw _ (List.mem_of_getElem? (i := 21) rfl))) (Or.inl (hw _ (List.mem_of_getElem? (i := 35) rfl))) (by decide) (t := .long) (t' := .long) (by decide) (by decide)))
  have F111 := F_sendBytes_r0.other W102 (Or.inr (slot_ne (Or.inl (hw _ (List.mem_of_getElem? (i := 28) rfl))) (Or.inl (hw _ (List.mem_of_getElem? (i := 35) rfl))) (by decide) (t := .int) (t' := .long) (by decide) (by decide)))
  have Z112 : n0 ≤ h102.size := Nat.le_trans Z0 (Keep.of_wr W102).1
  have K113 : Keep h0 h102 [r0] := K0.wr W102 (Or.inl (List.mem_of_getElem? (i := 0) rfl))
  have N114 := Fr.snoc X102 N0 g_r0
  have hgo115 : ∀ t, Steps p.tables e below (T102.setTop (mkF m 10 #[.val (.ref r0), .val (.long q1), .second] [])) t → Steps p.tables e below (s₁.setTop (mkF m 0 #[.val (.ref r0), .val (.long q1), .second] [])) t := by
    intro t kt
    show Steps p.tables e below (s₁.setTop (mkF m 0 #[.val (.ref r0), .val (.long q1), .second] [])) _
    refine XS.aloadN X0.here hx rfl (hb hby d4_0) rfl rfl ?_
    show Steps p.tables e below (s₁.setTop (mkF m 1 #[.val (.ref r0), .val (.long q1), .second] [(.ref r0)])) _
    refine XS.dup X0.here hx rfl (hb hby d4_1) rfl rfl ?_
    show Steps p.tables e below (s₁.setTop (mkF m 2 #[.val (.ref r0), .val (.long q1), .second] [(.ref r0), (.ref r0)])) _
    refine st101 _ ?_
    show Steps p.tables e below (T101.setTop (mkF m 5 #[.val (.ref r0), .val (.long q1), .second] [(.long w2), (.ref r0)])) _
    refine XS.lloadN X101.here hx rfl (hb hby d4_5) rfl ?_
    show Steps p.tables e below (T101.setTop (mkF m 6 #[.val (.ref r0), .val (.long q1), .second] [(.long q1), (.long w2), (.ref r0)])) _
    refine XS.ladd X101.here hx rfl (hb hby d4_6) rfl ?_
    show Steps p.tables e below (T101.setTop (mkF m 7 #[.val (.ref r0), .val (.long q1), .second] [(.long (w2 + q1)), (.ref r0)])) _
    rw [← hv1]
    refine st102 _ ?_
    exact kt
  refine own_go hgo115 ?_
  exact own_retV X102 hx Bd.returns Bd.notSynchronized (hb hby d4_10) (by decide) (by decide) (by rw [e102]; exact ⟨(by rfl), N114, K113, F104, (by subst hv1; exact F103), (by subst hv1; exact F105), (by subst hv1; exact F106), (by subst hv1; exact F107), (by subst hv1; exact F108), (by subst hv1; exact F109), (by subst hv1; exact F110), (by subst hv1; exact F111)⟩)
theorem d5_0 : decode prog_20_method_23_code 0 = .ok (.aload_n 0, 1) := by decide +kernel
theorem d5_1 : decode prog_20_method_23_code 1 = .ok (.getfield 49, 3) := by decide +kernel
theorem d5_4 : decode prog_20_method_23_code 4 = .ok (.lstore_n 1, 1) := by decide +kernel
theorem d5_5 : decode prog_20_method_23_code 5 = .ok (.aload_n 0, 1) := by decide +kernel
theorem d5_6 : decode prog_20_method_23_code 6 = .ok (.lconst 0, 1) := by decide +kernel
theorem d5_7 : decode prog_20_method_23_code 7 = .ok (.putfield 49, 3) := by decide +kernel
theorem d5_10 : decode prog_20_method_23_code 10 = .ok (.lload_n 1, 1) := by decide +kernel
theorem d5_11 : decode prog_20_method_23_code 11 = .ok (.lreturn, 1) := by decide +kernel
theorem ef_5 (m : MethodId) (r0 : Addr) : entryFrame m #[(.ref r0)] 3 = mkF m 0 #[.val (.ref r0), .unset, .unset] [] := by (first | (simp [entryFrame, mkF, argsToLocals, Value.category]; done) | rfl)
def Q5 (Z : State) (r0 : Addr) (w1 : Int64) (w2 : Int64) (u_body_r0 : Value) (w4 : Int32) (u_group_r0 : Value) (w6 : Int64) (w7 : Int64) (w8 : Int32) (h0 : Heap) (n0 : Nat) (v : Option Value) (h : Heap) (L : List Loc) : Prop := v = some (.long w1) ∧ Fr n0 L ∧ Keep h0 h [r0] ∧ Exa Z h r0 "com/example/millrace/millrace/queue/Message" ∧ Fld Z h r0 "com/example/millrace/millrace/queue/Message" "laterBytes" "J" (.long (0 : Int64)) ∧ Fld Z h r0 "com/example/millrace/millrace/queue/Message" "id" "J" (.long w2) ∧ Fld Z h r0 "com/example/millrace/millrace/queue/Message" "body" "[B" u_body_r0 ∧ Fld Z h r0 "com/example/millrace/millrace/queue/Message" "priority" "I" (.int w4) ∧ Fld Z h r0 "com/example/millrace/millrace/queue/Message" "group" "Ljava/lang/String;" u_group_r0 ∧ Fld Z h r0 "com/example/millrace/millrace/queue/Message" "due" "J" (.long w6) ∧ Fld Z h r0 "com/example/millrace/millrace/queue/Message" "readySince" "J" (.long w7) ∧ Fld Z h r0 "com/example/millrace/millrace/queue/Message" "sendBytes" "I" (.int w8)
set_option maxRecDepth 65536 in
set_option maxHeartbeats 40000000 in
theorem rm5 (l : Launch) (Z : State) (a0 : Array Value) (hw : ∀ d ∈ tables_1, d.before a0 Z = true) (ws : List Jvm.Cond) (r0 : Addr) (w1 : Int64) (w2 : Int64) (u_body_r0 : Value) (w4 : Int32) (u_group_r0 : Value) (w6 : Int64) (w7 : Int64) (w8 : Int32) (h0 : Heap) (n0 : Nat) (Z0 : n0 ≤ h0.size) (F_laterBytes_r0 : Fld Z h0 r0 "com/example/millrace/millrace/queue/Message" "laterBytes" "J" (.long w1)) (E_r0 : Exa Z h0 r0 "com/example/millrace/millrace/queue/Message") (F_id_r0 : Fld Z h0 r0 "com/example/millrace/millrace/queue/Message" "id" "J" (.long w2)) (F_body_r0 : Fld Z h0 r0 "com/example/millrace/millrace/queue/Message" "body" "[B" u_body_r0) (F_priority_r0 : Fld Z h0 r0 "com/example/millrace/millrace/queue/Message" "priority" "I" (.int w4)) (F_group_r0 : Fld Z h0 r0 "com/example/millrace/millrace/queue/Message" "group" "Ljava/lang/String;" u_group_r0) (F_due_r0 : Fld Z h0 r0 "com/example/millrace/millrace/queue/Message" "due" "J" (.long w6)) (F_readySince_r0 : Fld Z h0 r0 "com/example/millrace/millrace/queue/Message" "readySince" "J" (.long w7)) (F_sendBytes_r0 : Fld Z h0 r0 "com/example/millrace/millrace/queue/Message" "sendBytes" "I" (.int w8)) (g_r0 : n0 ≤ r0) :
    MetFree l (⟨"com/example/millrace/millrace/queue/Message", "forgetLaterBytes", "()J"⟩ : MethodName) (head1 (Jvm.Cond.code (⟨"com/example/millrace/millrace/queue/Message", "forgetLaterBytes", "()J"⟩ : MethodName) prog_20_method_23_code 3 (some .long) :: ws) ({ frames := 0, cells := 0, slots := 0, locals := 0 } : Room)) (fun a U => a = #[(.ref r0)] ∧ Z.Warmed39 U.vm ∧ U.heap = h0) (fun _ _ _ _ _ => True) (fun _ U o U' => ∃ v L, o = .returned v ∧ Q5 Z r0 w1 w2 u_body_r0 w4 u_group_r0 w6 w7 w8 h0 n0 v U'.heap L ∧ FrameEnd U o U' L ({ frames := 0, cells := 0, slots := 0, locals := 0 } : Room).cells ({ frames := 0, cells := 0, slots := 0, locals := 0 } : Room).slots) := by
  refine MetFree.of_bodySF (plainFor_of_name pn0) hisR ?_
  intro p e s m args below meth c s₁ Bd hml0 hP hK
  obtain ⟨rfl, hZ, hh⟩ := hP
  have hx := Bd.exec
  have hby := Bd.bytes
  have hml : c.maxLocals = 3 := hml0
  have hown : s.vm.findClass "com/example/millrace/millrace/queue/Message" = some m.cls := findClass_of_methodNamed Bd.named
  have hnm := (name_of_methodNamed Bd.named Bd.method).1
  have X0 : Stand p l e ({ frames := 0, cells := 0, slots := 0, locals := 0 } : Room) s m #[(.ref r0)] below meth c s₁ [] 0 0 := Stand.of_body Bd
  have e0 : s₁.heap = h0 := by rw [← hh, Bd.state]; rfl
  have N0 := Fr.nil n0
  have K0 : Keep h0 h0 [r0] := Keep.refl h0 _
  show own_Go p e below s (Q5 Z r0 w1 w2 u_body_r0 w4 u_group_r0 w6 w7 w8 h0 n0) ({ frames := 0, cells := 0, slots := 0, locals := 0 } : Room).cells ({ frames := 0, cells := 0, slots := 0, locals := 0 } : Room).slots (s₁.setTop (entryFrame m #[(.ref r0)] 3))
  refine own_go (fun t k => castTop (ef_5 m r0) k) ?_
  obtain ⟨T101, X101, e101, st101⟩ := getF X0 hx hZ hown (host := "") (Or.inl (hw _ (List.mem_of_getElem? (i := 34) rfl))) Via.refl e0 F_laterBytes_r0 (g := (mkF m 1 #[.val (.ref r0), .unset, .unset] [(.ref r0)])) rfl rfl (hb hby d5_1)
  obtain ⟨T102, h102, X102, e102, W102, st102⟩ := putF X101 hx hZ hown (host := "") (Or.inl (hw _ (List.mem_of_getElem? (i := 34) rfl))) Via.refl e101 F_laterBytes_r0 E_r0 (Or.inl (hw _ (List.mem_of_getElem? (i := 35) rfl))) (hw _ (List.mem_of_getElem? (i := 1) rfl)) (ty := .long) (by decide) rfl rfl (g := (mkF m 7 #[.val (.ref r0), .val (.long w1), .second] [(.long (0 : Int64)), (.ref r0)])) rfl rfl (hb hby d5_7)
  have F103 := F_laterBytes_r0.same W102
  have F104 := E_r0.wr W102
  have F105 := F_id_r0.other W102 (Or.inr (slot_ne (Or.inr (hw _ (List.mem_of_getElem? (i := 11) rfl))) (Or.inl (hw _ (List.mem_of_getElem? (i := 35) rfl))) (by decide) (t := .long) (t' := .long) (by decide) (by decide)))
  have F106 := F_body_r0.other W102 (Or.inr (slot_ne (Or.inr (hw _ (List.mem_of_getElem? (i := 13) rfl))) (Or.inl (hw _ (List.mem_of_getElem? (i := 35) rfl))) (by decide) (t := (.array .byte)) (t' := .long) (by decide) (by decide)))
  have F107 := F_priority_r0.other W102 (Or.inr (slot_ne (Or.inr (hw _ (List.mem_of_getElem? (i := 15) rfl))) (Or.inl (hw _ (List.mem_of_getElem? (i := 35) rfl))) (by decide) (t := .int) (t' := .long) (by decide) (by decide)))
  have F108 := F_group_r0.other W102 (Or.inr (slot_ne (Or.inr (hw _ (List.mem_of_getElem? (i := 17) rfl))) (Or.inl (hw _ (List.mem_of_getElem? (i := 35) rfl))) (by decide) (t := (.object "java/lang/String")) (t' := .long) (by decide) (by decide)))
  have F109 := F_due_r0.other W102 (Or.inr (slot_ne (Or.inl (hw _ (List.mem_of_getElem? (i := 19) rfl))) (Or.inl (hw _ (List.mem_of_getElem? (i := 35) rfl))) (by decide) (t := .long) (t' := .long) (by decide) (by decide)))
  have F110 := F_readySince_r0.other W102 (Or.inr (slot_ne (Or.inl (hw _ (List.mem_of_getElem? (i := 21) rfl))) (Or.inl (hw _ (List.mem_of_getElem? (i := 35) rfl))) (by decide) (t := .long) (t' := .long) (by decide) (by decide)))
  have F111 := F_sendBytes_r0.other W102 (Or.inr (slot_ne (Or.inl (hw _ (List.mem_of_getElem? (i := 28) rfl))) (Or.inl (hw _ (List.mem_of_getElem? (i := 35) rfl))) (by decide) (t := .int) (t' := .long) (by decide) (by decide)))
  have Z112 : n0 ≤ h102.size := Nat.le_trans Z0 (Keep.of_wr W102).1
  have K113 : Keep h0 h102 [r0] := K0.wr W102 (Or.inl (List.mem_of_getElem? (i := 0) rfl))
  have N114 := Fr.snoc X102 N0 g_r0
  have hgo115 : ∀ t, Steps p.tables e below (T102.setTop (mkF m 11 #[.val (.ref r0), .val (.long w1), .second] [(.long w1)])) t → Steps p.tables e below (s₁.setTop (mkF m 0 #[.val (.ref r0), .unset, .unset] [])) t := by
    intro t kt
    show Steps p.tables e below (s₁.setTop (mkF m 0 #[.val (.ref r0), .unset, .unset] [])) _
    refine XS.aloadN X0.here hx rfl (hb hby d5_0) rfl rfl ?_
    show Steps p.tables e below (s₁.setTop (mkF m 1 #[.val (.ref r0), .unset, .unset] [(.ref r0)])) _
    refine st101 _ ?_
    show Steps p.tables e below (T101.setTop (mkF m 4 #[.val (.ref r0), .unset, .unset] [(.long w1)])) _
    refine XS.lstoreN X101.here hx rfl (hb hby d5_4) rfl (l' := #[.val (.ref r0), .val (.long w1), .second]) rfl ?_
    show Steps p.tables e below (T101.setTop (mkF m 5 #[.val (.ref r0), .val (.long w1), .second] [])) _
    refine XS.aloadN X101.here hx rfl (hb hby d5_5) rfl rfl ?_
    show Steps p.tables e below (T101.setTop (mkF m 6 #[.val (.ref r0), .val (.long w1), .second] [(.ref r0)])) _
    refine XS.lconst X101.here hx rfl (hb hby d5_6) ?_
    show Steps p.tables e below (T101.setTop (mkF m 7 #[.val (.ref r0), .val (.long w1), .second] [(.long (0 : Int64)), (.ref r0)])) _
    refine st102 _ ?_
    show Steps p.tables e below (T102.setTop (mkF m 10 #[.val (.ref r0), .val (.long w1), .second] [])) _
    refine XS.lloadN X102.here hx rfl (hb hby d5_10) rfl ?_
    exact kt
  refine own_go hgo115 ?_
  exact own_retJ X102 hx Bd.returns Bd.notSynchronized (hb hby d5_11) (by decide) (by decide) (by rw [e102]; exact ⟨(by rfl), N114, K113, F104, (by exact F103), (by exact F105), (by exact F106), (by exact F107), (by exact F108), (by exact F109), (by exact F110), (by exact F111)⟩)
theorem d6_0 : decode prog_20_method_20_code 0 = .ok (.aload_n 0, 1) := by decide +kernel
theorem d6_1 : decode prog_20_method_20_code 1 = .ok (.getfield 46, 3) := by decide +kernel
theorem d6_4 : decode prog_20_method_20_code 4 = .ok (.i2l, 1) := by decide +kernel
theorem d6_5 : decode prog_20_method_20_code 5 = .ok (.aload_n 0, 1) := by decide +kernel
theorem d6_6 : decode prog_20_method_20_code 6 = .ok (.getfield 49, 3) := by decide +kernel
theorem d6_9 : decode prog_20_method_20_code 9 = .ok (.ladd, 1) := by decide +kernel
theorem d6_10 : decode prog_20_method_20_code 10 = .ok (.lreturn, 1) := by decide +kernel
theorem ef_6 (m : MethodId) (r0 : Addr) : entryFrame m #[(.ref r0)] 1 = mkF m 0 #[.val (.ref r0)] [] := by (first | (simp [entryFrame, mkF, argsToLocals, Value.category]; done) | rfl)
def Q6 (Z : State) (r0 : Addr) (w1 : Int32) (w2 : Int64) (h0 : Heap) (n0 : Nat) (v : Option Value) (h : Heap) (L : List Loc) : Prop := v = some (.long ((w1.toInt64) + w2)) ∧ Fr n0 L ∧ h = h0
set_option maxRecDepth 65536 in
set_option maxHeartbeats 40000000 in
theorem rm6 (l : Launch) (Z : State) (a0 : Array Value) (hw : ∀ d ∈ tables_1, d.before a0 Z = true) (ws : List Jvm.Cond) (r0 : Addr) (w1 : Int32) (w2 : Int64) (h0 : Heap) (n0 : Nat) (Z0 : n0 ≤ h0.size) (F_sendBytes_r0 : Fld Z h0 r0 "com/example/millrace/millrace/queue/Message" "sendBytes" "I" (.int w1)) (F_laterBytes_r0 : Fld Z h0 r0 "com/example/millrace/millrace/queue/Message" "laterBytes" "J" (.long w2)) :
    MetFree l (⟨"com/example/millrace/millrace/queue/Message", "journalBytes", "()J"⟩ : MethodName) (head1 (Jvm.Cond.code (⟨"com/example/millrace/millrace/queue/Message", "journalBytes", "()J"⟩ : MethodName) prog_20_method_20_code 1 (some .long) :: ws) ({ frames := 0, cells := 0, slots := 0, locals := 0 } : Room)) (fun a U => a = #[(.ref r0)] ∧ Z.Warmed39 U.vm ∧ U.heap = h0) (fun _ _ _ _ _ => True) (fun _ U o U' => ∃ v L, o = .returned v ∧ Q6 Z r0 w1 w2 h0 n0 v U'.heap L ∧ FrameEnd U o U' L ({ frames := 0, cells := 0, slots := 0, locals := 0 } : Room).cells ({ frames := 0, cells := 0, slots := 0, locals := 0 } : Room).slots) := by
  refine MetFree.of_bodySF (plainFor_of_name pn0) hisR ?_
  intro p e s m args below meth c s₁ Bd hml0 hP hK
  obtain ⟨rfl, hZ, hh⟩ := hP
  have hx := Bd.exec
  have hby := Bd.bytes
  have hml : c.maxLocals = 1 := hml0
  have hown : s.vm.findClass "com/example/millrace/millrace/queue/Message" = some m.cls := findClass_of_methodNamed Bd.named
  have hnm := (name_of_methodNamed Bd.named Bd.method).1
  have X0 : Stand p l e ({ frames := 0, cells := 0, slots := 0, locals := 0 } : Room) s m #[(.ref r0)] below meth c s₁ [] 0 0 := Stand.of_body Bd
  have e0 : s₁.heap = h0 := by rw [← hh, Bd.state]; rfl
  have N0 := Fr.nil n0
  have K0 : Keep h0 h0 [] := Keep.refl h0 _
  show own_Go p e below s (Q6 Z r0 w1 w2 h0 n0) ({ frames := 0, cells := 0, slots := 0, locals := 0 } : Room).cells ({ frames := 0, cells := 0, slots := 0, locals := 0 } : Room).slots (s₁.setTop (entryFrame m #[(.ref r0)] 1))
  refine own_go (fun t k => castTop (ef_6 m r0) k) ?_
  obtain ⟨T101, X101, e101, st101⟩ := getF X0 hx hZ hown (host := "") (Or.inl (hw _ (List.mem_of_getElem? (i := 27) rfl))) Via.refl e0 F_sendBytes_r0 (g := (mkF m 1 #[.val (.ref r0)] [(.ref r0)])) rfl rfl (hb hby d6_1)
  obtain ⟨T102, X102, e102, st102⟩ := getF X101 hx hZ hown (host := "") (Or.inl (hw _ (List.mem_of_getElem? (i := 34) rfl))) Via.refl e101 F_laterBytes_r0 (g := (mkF m 6 #[.val (.ref r0)] [(.ref r0), (.long (w1.toInt64))])) rfl rfl (hb hby d6_6)
  obtain ⟨v1, hv1⟩ : ∃ z : Int64, z = ((w1.toInt64) + w2) := ⟨_, rfl⟩
  have hgo103 : ∀ t, Steps p.tables e below (T102.setTop (mkF m 10 #[.val (.ref r0)] [(.long v1)])) t → Steps p.tables e below (s₁.setTop (mkF m 0 #[.val (.ref r0)] [])) t := by
    intro t kt
    show Steps p.tables e below (s₁.setTop (mkF m 0 #[.val (.ref r0)] [])) _
    refine XS.aloadN X0.here hx rfl (hb hby d6_0) rfl rfl ?_
    show Steps p.tables e below (s₁.setTop (mkF m 1 #[.val (.ref r0)] [(.ref r0)])) _
    refine st101 _ ?_
    show Steps p.tables e below (T101.setTop (mkF m 4 #[.val (.ref r0)] [(.int w1)])) _
    refine XS.i2l X101.here hx rfl (hb hby d6_4) rfl ?_
    show Steps p.tables e below (T101.setTop (mkF m 5 #[.val (.ref r0)] [(.long (w1.toInt64))])) _
    refine XS.aloadN X101.here hx rfl (hb hby d6_5) rfl rfl ?_
    show Steps p.tables e below (T101.setTop (mkF m 6 #[.val (.ref r0)] [(.ref r0), (.long (w1.toInt64))])) _
    refine st102 _ ?_
    show Steps p.tables e below (T102.setTop (mkF m 9 #[.val (.ref r0)] [(.long w2), (.long (w1.toInt64))])) _
    refine XS.ladd X102.here hx rfl (hb hby d6_9) rfl ?_
    rw [← hv1]
    exact kt
  refine own_go hgo103 ?_
  exact own_retJ X102 hx Bd.returns Bd.notSynchronized (hb hby d6_10) (by decide) (by decide) (by rw [e102]; exact ⟨(by subst hv1; rfl), N0, rfl⟩)
theorem pd1 : parseMethodDescriptor "(J[BILjava/lang/String;J)V" = some ⟨[.long, (.array .byte), .int, (.object "java/lang/String"), .long], none⟩ := by decide +kernel
theorem pd2 : parseMethodDescriptor "(I)V" = some ⟨[.int], none⟩ := by decide +kernel
theorem pd3 : parseMethodDescriptor "(J)V" = some ⟨[.long], none⟩ := by decide +kernel
theorem pd4 : parseMethodDescriptor "()J" = some ⟨[], some .long⟩ := by decide +kernel
theorem ef_0 (m : MethodId) (q0 : Int64) (q1 : Int64) (q2 : Int64) (p3 : Int32) (q4 : Int64) (q5 : Int64) : entryFrame m #[(.long q0), (.long q1), (.long q2), (.int p3), (.long q4), (.long q5)] maxLocals = mkF m 0 #[.val (.long q0), .second, .val (.long q1), .second, .val (.long q2), .second, .val (.int p3), .val (.long q4), .second, .val (.long q5), .second, .unset, .unset, .unset, .unset, .unset, .unset, .unset, .unset, .unset, .unset, .unset] [] := by (first | (simp [entryFrame, mkF, argsToLocals, Value.category, maxLocals]; done) | rfl)
set_option maxRecDepth 65536 in
theorem own_leaf0 {q0 q1 q2 q4 q5 v2 v3 v4 : Int64} {p3 v9 v10 v11 v12 : Int32} {v1 : Nat → Int32} (hv1 : v1 = (fun _ => (0 : Int32))) (hv2 : v2 = (((0 : Int64) + q0) + q1)) (hv3 : v3 = ((p3.toInt64) + (0 : Int64))) (hv4 : v4 = ((0 : Int64) + q2)) (hv9 : v9 = (if v4 = q2 then (1 : Int32) else (0 : Int32))) (hv10 : v10 = (if (0 : Int64) = (0 : Int64) then v9 else (0 : Int32))) (hv11 : v11 = (if v3 = (p3.toInt64) then v10 else (0 : Int32))) (hv12 : v12 = (if v2 = (q0 + q1) then v11 else (0 : Int32))) : v12 = 1 := by
  have e1 : v2 = q0 + q1 := by rw [hv2, Int64.zero_add]
  have e2 : v3 = p3.toInt64 := by rw [hv3, Int64.add_zero]
  have e3 : v4 = q2 := by rw [hv4, Int64.zero_add]
  rw [hv12, if_pos e1, hv11, if_pos e2, hv10, if_pos rfl, hv9, if_pos e3]
theorem pn5 : plainName "com/example/millrace/millrace/queue/MessageForgetLaterBytesPinLaw" = true := by first | (simp [plainName, overriddenIn]; done) | decide +kernel
def Q0 (Z : State) (q0 : Int64) (q1 : Int64) (q2 : Int64) (p3 : Int32) (q4 : Int64) (q5 : Int64) (h0 : Heap) (n0 : Nat) (v : Option Value) (h : Heap) (L : List Loc) : Prop := v = some (.int 1) ∧ Fr n0 L
set_option maxRecDepth 65536 in
set_option maxHeartbeats 40000000 in
theorem rm0 (l : Launch) (Z : State) (a0 : Array Value) (hw : ∀ d ∈ tables_1, d.before a0 Z = true) (ws : List Jvm.Cond) (q0 : Int64) (q1 : Int64) (q2 : Int64) (p3 : Int32) (q4 : Int64) (q5 : Int64) (h0 : Heap) (n0 : Nat) (Z0 : n0 ≤ h0.size) :
    MetFree l x (head1 (Jvm.Cond.code x code maxLocals ret :: ws) room_1) (fun a U => a = #[(.long q0), (.long q1), (.long q2), (.int p3), (.long q4), (.long q5)] ∧ Z.Warmed39 U.vm ∧ U.heap = h0) (fun _ _ _ _ _ => True) (fun _ U o U' => ∃ v L, o = .returned v ∧ Q0 Z q0 q1 q2 p3 q4 q5 h0 n0 v U'.heap L ∧ FrameEnd U o U' L room_1.cells room_1.slots) := by
  refine MetFree.of_bodySF (plainFor_of_name pn5) hisR ?_
  intro p e s m args below meth c s₁ Bd hml0 hP hK
  obtain ⟨rfl, hZ, hh⟩ := hP
  have hx := Bd.exec
  have hby := Bd.bytes
  have hml : c.maxLocals = 22 := hml0
  have hown : s.vm.findClass "com/example/millrace/millrace/queue/MessageForgetLaterBytesPinLaw" = some m.cls := findClass_of_methodNamed Bd.named
  have hnm := (name_of_methodNamed Bd.named Bd.method).1
  have X0 : Stand p l e room_1 s m #[(.long q0), (.long q1), (.long q2), (.int p3), (.long q4), (.long q5)] below meth c s₁ [] 0 0 := Stand.of_body Bd
  have e0 : s₁.heap = h0 := by rw [← hh, Bd.state]; rfl
  have N0 := Fr.nil n0
  have K0 : Keep h0 h0 [] := Keep.refl h0 _
  show own_Go p e below s (Q0 Z q0 q1 q2 p3 q4 q5 h0 n0) room_1.cells room_1.slots (s₁.setTop (entryFrame m #[(.long q0), (.long q1), (.long q2), (.int p3), (.long q4), (.long q5)] maxLocals))
  refine own_go (fun t k => castTop (ef_0 m q0 q1 q2 p3 q4 q5) k) ?_
  obtain ⟨T101, h101, X101, e101, E101, A101, D101, -, st101⟩ := newO X0 hx hZ hown (hw _ (List.mem_of_getElem? (i := 0) rfl)) (hw _ (List.mem_of_getElem? (i := 1) rfl)) (hw _ (List.mem_of_getElem? (i := 2) rfl)) e0 (g := (mkF m 0 #[.val (.long q0), .second, .val (.long q1), .second, .val (.long q2), .second, .val (.int p3), .val (.long q4), .second, .val (.long q5), .second, .unset, .unset, .unset, .unset, .unset, .unset, .unset, .unset, .unset, .unset, .unset] [])) rfl (hb hby at_0) (by decide) (by decide)
  obtain ⟨b101, g101⟩ : ∃ z, z = h0.size := ⟨_, rfl⟩
  rw [← g101] at A101 D101 st101
  have g_b101 : n0 ≤ b101 := Nat.le_trans Z0 (Nat.le_of_eq g101.symm)
  have sz_b101 : h0.size ≤ b101 := Nat.le_trans K0.1 (Nat.le_of_eq g101.symm)
  have Z102 : n0 ≤ h101.size := Nat.le_trans Z0 E101.1
  have K103 : Keep h0 h101 [] := K0.ext E101
  have F104 : Fld Z h101 b101 "com/example/millrace/millrace/queue/Message" "id" "J" (.long (0 : Int64)) := D101 (Or.inr (hw _ (List.mem_of_getElem? (i := 11) rfl))) (ty := .long) (by decide)
  have F105 : Fld Z h101 b101 "com/example/millrace/millrace/queue/Message" "body" "[B" .null := D101 (Or.inr (hw _ (List.mem_of_getElem? (i := 13) rfl))) (ty := (.array .byte)) (by decide)
  have F106 : Fld Z h101 b101 "com/example/millrace/millrace/queue/Message" "priority" "I" (.int (0 : Int32)) := D101 (Or.inr (hw _ (List.mem_of_getElem? (i := 15) rfl))) (ty := .int) (by decide)
  have F107 : Fld Z h101 b101 "com/example/millrace/millrace/queue/Message" "group" "Ljava/lang/String;" .null := D101 (Or.inr (hw _ (List.mem_of_getElem? (i := 17) rfl))) (ty := (.object "java/lang/String")) (by decide)
  have F108 : Fld Z h101 b101 "com/example/millrace/millrace/queue/Message" "due" "J" (.long (0 : Int64)) := D101 (Or.inl (hw _ (List.mem_of_getElem? (i := 19) rfl))) (ty := .long) (by decide)
  have F109 : Fld Z h101 b101 "com/example/millrace/millrace/queue/Message" "readySince" "J" (.long (0 : Int64)) := D101 (Or.inl (hw _ (List.mem_of_getElem? (i := 21) rfl))) (ty := .long) (by decide)
  have F110 : Fld Z h101 b101 "com/example/millrace/millrace/queue/Message" "sendBytes" "I" (.int (0 : Int32)) := D101 (Or.inl (hw _ (List.mem_of_getElem? (i := 28) rfl))) (ty := .int) (by decide)
  have F111 : Fld Z h101 b101 "com/example/millrace/millrace/queue/Message" "laterBytes" "J" (.long (0 : Int64)) := D101 (Or.inl (hw _ (List.mem_of_getElem? (i := 35) rfl))) (ty := .long) (by decide)
  obtain ⟨T112, h112, k112, X112, e112, E112, A112, st112⟩ := newP X101 hx hZ (hw _ (List.mem_of_getElem? (i := 3) rfl)) e101 (g := (mkF m 7 #[.val (.long q0), .second, .val (.long q1), .second, .val (.long q2), .second, .val (.int p3), .val (.long q4), .second, .val (.long q5), .second, .unset, .unset, .unset, .unset, .unset, .unset, .unset, .unset, .unset, .unset, .unset] [(.int (0 : Int32)), (.long q4), (.ref b101), (.ref b101)])) rfl (hb hby at_7) rfl (by decide) (cap := 0) (by decide) (by decide) (by decide) (by decide)
  obtain ⟨b112, g112⟩ : ∃ z, z = h101.size := ⟨_, rfl⟩
  rw [← g112] at A112 st112
  have ne_b101_b112 : b101 ≠ b112 := Nat.ne_of_lt (Nat.lt_of_lt_of_le A101.lt (Nat.le_of_eq g112.symm))
  have g_b112 : n0 ≤ b112 := Nat.le_trans Z102 (Nat.le_of_eq g112.symm)
  have sz_b112 : h0.size ≤ b112 := Nat.le_trans K103.1 (Nat.le_of_eq g112.symm)
  have F113 := A101.ext E112
  have F114 := F104.ext E112
  have F115 := F105.ext E112
  have F116 := F106.ext E112
  have F117 := F107.ext E112
  have F118 := F108.ext E112
  have F119 := F109.ext E112
  have F120 := F110.ext E112
  have F121 := F111.ext E112
  have Z122 : n0 ≤ h112.size := Nat.le_trans Z102 E112.1
  have K123 : Keep h0 h112 [] := K103.ext E112
  obtain ⟨v1, hv1⟩ : ∃ z : Nat → Int32, z = (fun _ => (0 : Int32)) := ⟨_, rfl⟩
  have F124 : own_AI Z h112 b112 .byte 0 v1 := by rw [hv1]; exact own_AI.new A112 rfl (by decide)
  obtain ⟨_, _, ⟨T125, L125, k125, n125⟩, -, X125, ⟨Lc125, hQ125, l125, y125, z125⟩, st125⟩ := X112.specialBack hx (y := (⟨"com/example/millrace/millrace/queue/Message", "<init>", "(J[BILjava/lang/String;J)V"⟩ : MethodName)) rfl hown (mvT hZ (hw _ (List.mem_of_getElem? (i := 4) rfl))) (mvT hZ (hw _ (List.mem_of_getElem? (i := 5) rfl))) (mvT hZ (hw _ (List.mem_of_getElem? (i := 6) rfl))) (by decide) (backOf (W := 1) (rm1 l Z a0 hw [] b101 q4 b112 (1 : Int32) q5 (0 : Int64) .null (0 : Int32) .null (0 : Int64) (0 : Int64) (0 : Int32) (0 : Int64) h112 n0 Z122 F113 F114 F115 F116 F117 F118 F119 F120 F121 g_b101) hZ (hw _ (List.mem_of_getElem? (i := 6) rfl)) (hw _ (List.mem_of_getElem? (i := 2) rfl)) (by decide) (by decide)) (g := (mkF m 13 #[.val (.long q0), .second, .val (.long q1), .second, .val (.long q2), .second, .val (.int p3), .val (.long q4), .second, .val (.long q5), .second, .unset, .unset, .unset, .unset, .unset, .unset, .unset, .unset, .unset, .unset, .unset] [(.long q5), .null, (.int (1 : Int32)), (.ref b112), (.long q4), (.ref b101), (.ref b101)])) rfl (by rw [hml]; rfl) (Steps.refl _) (a := b101) (argsL := [(.long q4), (.ref b112), (.int (1 : Int32)), .null, (.long q5)]) (rest := [(.ref b101)]) (lenOf pd1 rfl) rfl (by show 2 * 0 + _ ≤ _; exact Nat.le_of_eq rfl) (hb hby at_13) (fun _ _ => ⟨rfl, e112, (by decide : 2 + 0 ≤ _), (by decide : 13 + 0 ≤ _)⟩)
  dsimp only [Pt.U, Pt.locs, Pt.cells, Pt.slots] at X125 l125 y125 z125 st125 hQ125
  subst l125 y125 z125
  obtain ⟨rfl, N125q, K125q, F125_0, F125_1, F125_2, F125_3, F125_4, F125_5, F125_6, F125_7, F125_8⟩ := hQ125
  have F126 := F113.keep K125q
  have F127 := F124.keep K125q (ninS (Ne.symm ne_b101_b112) nin0)
  have Z128 : n0 ≤ T125.heap.size := Nat.le_trans Z122 K125q.1
  have K129 : Keep h0 T125.heap [] := K123.trans K125q (allS (Or.inr sz_b101) all0)
  have N125 := Fr.app N0 N125q
  obtain ⟨cq130, kq130, q130a, q130b, q130c⟩ := isOf hZ (rfl : T125.heap = T125.heap) F125_0
  obtain ⟨_, _, ⟨T130, L130, k130, n130⟩, -, X130, ⟨Lc130, hQ130, l130, y130, z130⟩, st130⟩ := X125.virtualBack hx (y := (⟨"com/example/millrace/millrace/queue/Message", "setSendBytes", "(I)V"⟩ : MethodName)) (z := (⟨"com/example/millrace/millrace/queue/Message", "setSendBytes", "(I)V"⟩ : MethodName)) hown (mvT hZ (hw _ (List.mem_of_getElem? (i := 22) rfl))) (mvT hZ (hw _ (List.mem_of_getElem? (i := 23) rfl))) (notFace_of_selects (args := #[]) (mvT hZ (hw _ (List.mem_of_getElem? (i := 25) rfl)))) (mvT hZ (hw _ (List.mem_of_getElem? (i := 25) rfl))) (mvT hZ (hw _ (List.mem_of_getElem? (i := 24) rfl))) (by decide) (backOf (W := 0) (rm3 l Z a0 hw [] b101 p3 (0 : Int32) q4 (.ref b112) (1 : Int32) .null q5 q5 (0 : Int64) (T125.heap) n0 Z128 F125_0 F125_7 F125_1 F125_2 F125_3 F125_4 F125_5 F125_6 F125_8 g_b101) hZ (hw _ (List.mem_of_getElem? (i := 26) rfl)) (hw _ (List.mem_of_getElem? (i := 2) rfl)) (by decide) (by decide)) q130a q130c (g := (mkF m 22 #[.val (.long q0), .second, .val (.long q1), .second, .val (.long q2), .second, .val (.int p3), .val (.long q4), .second, .val (.long q5), .second, .val (.ref b101), .unset, .unset, .unset, .unset, .unset, .unset, .unset, .unset, .unset, .unset] [(.int p3), (.ref b101)])) rfl (by rw [hml]; rfl) (Steps.refl _) (argsL := [(.int p3)]) (rest := []) (lenOf pd2 rfl) rfl (by show 2 * 0 + _ ≤ _; exact Nat.le_of_eq rfl) (hb hby at_22) (fun _ _ => ⟨rfl, (rfl : T125.heap = T125.heap), (by decide : 2 + 0 ≤ _), (by decide : 13 + 0 ≤ _)⟩)
  dsimp only [Pt.U, Pt.locs, Pt.cells, Pt.slots] at X130 l130 y130 z130 st130 hQ130
  subst l130 y130 z130
  obtain ⟨rfl, N130q, K130q, F130_0, F130_1, F130_2, F130_3, F130_4, F130_5, F130_6, F130_7, F130_8⟩ := hQ130
  have F131 := F125_0.keep K130q
  have F132 := F127.keep K130q (ninS (Ne.symm ne_b101_b112) nin0)
  have Z133 : n0 ≤ T130.heap.size := Nat.le_trans Z128 K130q.1
  have K134 : Keep h0 T130.heap [] := K129.trans K130q (allS (Or.inr sz_b101) all0)
  have N130 := Fr.app N125 N130q
  obtain ⟨cq135, kq135, q135a, q135b, q135c⟩ := isOf hZ (rfl : T130.heap = T130.heap) F130_0
  obtain ⟨_, _, ⟨T135, L135, k135, n135⟩, -, X135, ⟨Lc135, hQ135, l135, y135, z135⟩, st135⟩ := X130.virtualBack hx (y := (⟨"com/example/millrace/millrace/queue/Message", "addJournalBytes", "(J)V"⟩ : MethodName)) (z := (⟨"com/example/millrace/millrace/queue/Message", "addJournalBytes", "(J)V"⟩ : MethodName)) hown (mvT hZ (hw _ (List.mem_of_getElem? (i := 29) rfl))) (mvT hZ (hw _ (List.mem_of_getElem? (i := 30) rfl))) (notFace_of_selects (args := #[]) (mvT hZ (hw _ (List.mem_of_getElem? (i := 32) rfl)))) (mvT hZ (hw _ (List.mem_of_getElem? (i := 32) rfl))) (mvT hZ (hw _ (List.mem_of_getElem? (i := 31) rfl))) (by decide) (backOf (W := 0) (rm4 l Z a0 hw [] b101 q0 (0 : Int64) q4 (.ref b112) (1 : Int32) .null q5 q5 p3 (T130.heap) n0 Z133 F130_8 F130_0 F130_2 F130_3 F130_4 F130_5 F130_6 F130_7 F130_1 g_b101) hZ (hw _ (List.mem_of_getElem? (i := 33) rfl)) (hw _ (List.mem_of_getElem? (i := 2) rfl)) (by decide) (by decide)) q135a q135c (g := (mkF m 28 #[.val (.long q0), .second, .val (.long q1), .second, .val (.long q2), .second, .val (.int p3), .val (.long q4), .second, .val (.long q5), .second, .val (.ref b101), .unset, .unset, .unset, .unset, .unset, .unset, .unset, .unset, .unset, .unset] [(.long q0), (.ref b101)])) rfl (by rw [hml]; rfl) (Steps.refl _) (argsL := [(.long q0)]) (rest := []) (lenOf pd3 rfl) rfl (by show 2 * 0 + _ ≤ _; exact Nat.le_of_eq rfl) (hb hby at_28) (fun _ _ => ⟨rfl, (rfl : T130.heap = T130.heap), (by decide : 2 + 0 ≤ _), (by decide : 13 + 0 ≤ _)⟩)
  dsimp only [Pt.U, Pt.locs, Pt.cells, Pt.slots] at X135 l135 y135 z135 st135 hQ135
  subst l135 y135 z135
  obtain ⟨rfl, N135q, K135q, F135_0, F135_1, F135_2, F135_3, F135_4, F135_5, F135_6, F135_7, F135_8⟩ := hQ135
  have F136 := F130_0.keep K135q
  have F137 := F132.keep K135q (ninS (Ne.symm ne_b101_b112) nin0)
  have Z138 : n0 ≤ T135.heap.size := Nat.le_trans Z133 K135q.1
  have K139 : Keep h0 T135.heap [] := K134.trans K135q (allS (Or.inr sz_b101) all0)
  have N135 := Fr.app N130 N135q
  obtain ⟨cq140, kq140, q140a, q140b, q140c⟩ := isOf hZ (rfl : T135.heap = T135.heap) F135_0
  obtain ⟨_, _, ⟨T140, L140, k140, n140⟩, -, X140, ⟨Lc140, hQ140, l140, y140, z140⟩, st140⟩ := X135.virtualBack hx (y := (⟨"com/example/millrace/millrace/queue/Message", "addJournalBytes", "(J)V"⟩ : MethodName)) (z := (⟨"com/example/millrace/millrace/queue/Message", "addJournalBytes", "(J)V"⟩ : MethodName)) hown (mvT hZ (hw _ (List.mem_of_getElem? (i := 29) rfl))) (mvT hZ (hw _ (List.mem_of_getElem? (i := 30) rfl))) (notFace_of_selects (args := #[]) (mvT hZ (hw _ (List.mem_of_getElem? (i := 32) rfl)))) (mvT hZ (hw _ (List.mem_of_getElem? (i := 32) rfl))) (mvT hZ (hw _ (List.mem_of_getElem? (i := 31) rfl))) (by decide) (backOf (W := 0) (rm4 l Z a0 hw [] b101 q1 ((0 : Int64) + q0) q4 (.ref b112) (1 : Int32) .null q5 q5 p3 (T135.heap) n0 Z138 F135_1 F135_0 F135_2 F135_3 F135_4 F135_5 F135_6 F135_7 F135_8 g_b101) hZ (hw _ (List.mem_of_getElem? (i := 33) rfl)) (hw _ (List.mem_of_getElem? (i := 2) rfl)) (by decide) (by decide)) q140a q140c (g := (mkF m 34 #[.val (.long q0), .second, .val (.long q1), .second, .val (.long q2), .second, .val (.int p3), .val (.long q4), .second, .val (.long q5), .second, .val (.ref b101), .unset, .unset, .unset, .unset, .unset, .unset, .unset, .unset, .unset, .unset] [(.long q1), (.ref b101)])) rfl (by rw [hml]; rfl) (Steps.refl _) (argsL := [(.long q1)]) (rest := []) (lenOf pd3 rfl) rfl (by show 2 * 0 + _ ≤ _; exact Nat.le_of_eq rfl) (hb hby at_34) (fun _ _ => ⟨rfl, (rfl : T135.heap = T135.heap), (by decide : 2 + 0 ≤ _), (by decide : 13 + 0 ≤ _)⟩)
  dsimp only [Pt.U, Pt.locs, Pt.cells, Pt.slots] at X140 l140 y140 z140 st140 hQ140
  subst l140 y140 z140
  obtain ⟨rfl, N140q, K140q, F140_0, F140_1, F140_2, F140_3, F140_4, F140_5, F140_6, F140_7, F140_8⟩ := hQ140
  have F141 := F135_0.keep K140q
  have F142 := F137.keep K140q (ninS (Ne.symm ne_b101_b112) nin0)
  have Z143 : n0 ≤ T140.heap.size := Nat.le_trans Z138 K140q.1
  have K144 : Keep h0 T140.heap [] := K139.trans K140q (allS (Or.inr sz_b101) all0)
  have N140 := Fr.app N135 N140q
  obtain ⟨cq145, kq145, q145a, q145b, q145c⟩ := isOf hZ (rfl : T140.heap = T140.heap) F140_0
  obtain ⟨_, _, ⟨T145, L145, k145, n145⟩, -, X145, ⟨Lc145, hQ145, l145, y145, z145⟩, st145⟩ := X140.virtualBack hx (y := (⟨"com/example/millrace/millrace/queue/Message", "forgetLaterBytes", "()J"⟩ : MethodName)) (z := (⟨"com/example/millrace/millrace/queue/Message", "forgetLaterBytes", "()J"⟩ : MethodName)) hown (mvT hZ (hw _ (List.mem_of_getElem? (i := 36) rfl))) (mvT hZ (hw _ (List.mem_of_getElem? (i := 37) rfl))) (notFace_of_selects (args := #[]) (mvT hZ (hw _ (List.mem_of_getElem? (i := 39) rfl)))) (mvT hZ (hw _ (List.mem_of_getElem? (i := 39) rfl))) (mvT hZ (hw _ (List.mem_of_getElem? (i := 38) rfl))) (by decide) (backOf (W := 0) (rm5 l Z a0 hw [] b101 (((0 : Int64) + q0) + q1) q4 (.ref b112) (1 : Int32) .null q5 q5 p3 (T140.heap) n0 Z143 F140_1 F140_0 F140_2 F140_3 F140_4 F140_5 F140_6 F140_7 F140_8 g_b101) hZ (hw _ (List.mem_of_getElem? (i := 40) rfl)) (hw _ (List.mem_of_getElem? (i := 2) rfl)) (by decide) (by decide)) q145a q145c (g := (mkF m 39 #[.val (.long q0), .second, .val (.long q1), .second, .val (.long q2), .second, .val (.int p3), .val (.long q4), .second, .val (.long q5), .second, .val (.ref b101), .unset, .unset, .unset, .unset, .unset, .unset, .unset, .unset, .unset, .unset] [(.ref b101)])) rfl (by rw [hml]; rfl) (Steps.refl _) (argsL := []) (rest := []) (lenOf pd4 rfl) rfl (by show 2 * 0 + _ ≤ _; exact Nat.le_of_eq rfl) (hb hby at_39) (fun _ _ => ⟨rfl, (rfl : T140.heap = T140.heap), (by decide : 2 + 0 ≤ _), (by decide : 13 + 0 ≤ _)⟩)
  dsimp only [Pt.U, Pt.locs, Pt.cells, Pt.slots] at X145 l145 y145 z145 st145 hQ145
  subst l145 y145 z145
  obtain ⟨rfl, N145q, K145q, F145_0, F145_1, F145_2, F145_3, F145_4, F145_5, F145_6, F145_7, F145_8⟩ := hQ145
  have F146 := F140_0.keep K145q
  have F147 := F142.keep K145q (ninS (Ne.symm ne_b101_b112) nin0)
  have Z148 : n0 ≤ T145.heap.size := Nat.le_trans Z143 K145q.1
  have K149 : Keep h0 T145.heap [] := K144.trans K145q (allS (Or.inr sz_b101) all0)
  have N145 := Fr.app N140 N145q
  obtain ⟨v2, hv2⟩ : ∃ z : Int64, z = (((0 : Int64) + q0) + q1) := ⟨_, rfl⟩
  obtain ⟨cq150, kq150, q150a, q150b, q150c⟩ := isOf hZ (rfl : T145.heap = T145.heap) F145_0
  obtain ⟨_, _, ⟨T150, L150, k150, n150⟩, -, X150, ⟨Lc150, hQ150, l150, y150, z150⟩, st150⟩ := X145.virtualBack hx (y := (⟨"com/example/millrace/millrace/queue/Message", "journalBytes", "()J"⟩ : MethodName)) (z := (⟨"com/example/millrace/millrace/queue/Message", "journalBytes", "()J"⟩ : MethodName)) hown (mvT hZ (hw _ (List.mem_of_getElem? (i := 41) rfl))) (mvT hZ (hw _ (List.mem_of_getElem? (i := 42) rfl))) (notFace_of_selects (args := #[]) (mvT hZ (hw _ (List.mem_of_getElem? (i := 44) rfl)))) (mvT hZ (hw _ (List.mem_of_getElem? (i := 44) rfl))) (mvT hZ (hw _ (List.mem_of_getElem? (i := 43) rfl))) (by decide) (backOf (W := 0) (rm6 l Z a0 hw [] b101 p3 (0 : Int64) (T145.heap) n0 Z148 F145_8 F145_1) hZ (hw _ (List.mem_of_getElem? (i := 45) rfl)) (hw _ (List.mem_of_getElem? (i := 2) rfl)) (by decide) (by decide)) q150a q150c (g := (mkF m 46 #[.val (.long q0), .second, .val (.long q1), .second, .val (.long q2), .second, .val (.int p3), .val (.long q4), .second, .val (.long q5), .second, .val (.ref b101), .val (.long v2), .second, .unset, .unset, .unset, .unset, .unset, .unset, .unset, .unset] [(.ref b101)])) rfl (by rw [hml]; rfl) (Steps.refl _) (argsL := []) (rest := []) (lenOf pd4 rfl) rfl (by show 2 * 0 + _ ≤ _; exact Nat.le_of_eq rfl) (hb hby at_46) (fun _ _ => ⟨rfl, (rfl : T145.heap = T145.heap), (by decide : 2 + 0 ≤ _), (by decide : 13 + 0 ≤ _)⟩)
  dsimp only [Pt.U, Pt.locs, Pt.cells, Pt.slots] at X150 l150 y150 z150 st150 hQ150
  subst l150 y150 z150
  obtain ⟨rfl, N150q, e150⟩ := hQ150
  have N150 := Fr.app N145 N150q
  obtain ⟨v3, hv3⟩ : ∃ z : Int64, z = ((p3.toInt64) + (0 : Int64)) := ⟨_, rfl⟩
  obtain ⟨cq151, kq151, q151a, q151b, q151c⟩ := isOf hZ e150 F145_0
  obtain ⟨_, _, ⟨T151, L151, k151, n151⟩, -, X151, ⟨Lc151, hQ151, l151, y151, z151⟩, st151⟩ := X150.virtualBack hx (y := (⟨"com/example/millrace/millrace/queue/Message", "forgetLaterBytes", "()J"⟩ : MethodName)) (z := (⟨"com/example/millrace/millrace/queue/Message", "forgetLaterBytes", "()J"⟩ : MethodName)) hown (mvT hZ (hw _ (List.mem_of_getElem? (i := 36) rfl))) (mvT hZ (hw _ (List.mem_of_getElem? (i := 37) rfl))) (notFace_of_selects (args := #[]) (mvT hZ (hw _ (List.mem_of_getElem? (i := 39) rfl)))) (mvT hZ (hw _ (List.mem_of_getElem? (i := 39) rfl))) (mvT hZ (hw _ (List.mem_of_getElem? (i := 38) rfl))) (by decide) (backOf (W := 0) (rm5 l Z a0 hw [] b101 (0 : Int64) q4 (.ref b112) (1 : Int32) .null q5 q5 p3 (T145.heap) n0 Z148 F145_1 F145_0 F145_2 F145_3 F145_4 F145_5 F145_6 F145_7 F145_8 g_b101) hZ (hw _ (List.mem_of_getElem? (i := 40) rfl)) (hw _ (List.mem_of_getElem? (i := 2) rfl)) (by decide) (by decide)) q151a q151c (g := (mkF m 53 #[.val (.long q0), .second, .val (.long q1), .second, .val (.long q2), .second, .val (.int p3), .val (.long q4), .second, .val (.long q5), .second, .val (.ref b101), .val (.long v2), .second, .val (.long v3), .second, .unset, .unset, .unset, .unset, .unset, .unset] [(.ref b101)])) rfl (by rw [hml]; rfl) (Steps.refl _) (argsL := []) (rest := []) (lenOf pd4 rfl) rfl (by show 2 * 0 + _ ≤ _; exact Nat.le_of_eq rfl) (hb hby at_53) (fun _ _ => ⟨rfl, e150, (by decide : 2 + 0 ≤ _), (by decide : 13 + 0 ≤ _)⟩)
  dsimp only [Pt.U, Pt.locs, Pt.cells, Pt.slots] at X151 l151 y151 z151 st151 hQ151
  subst l151 y151 z151
  obtain ⟨rfl, N151q, K151q, F151_0, F151_1, F151_2, F151_3, F151_4, F151_5, F151_6, F151_7, F151_8⟩ := hQ151
  have F152 := F145_0.keep K151q
  have F153 := F147.keep K151q (ninS (Ne.symm ne_b101_b112) nin0)
  have Z154 : n0 ≤ T151.heap.size := Nat.le_trans Z148 K151q.1
  have K155 : Keep h0 T151.heap [] := K149.trans K151q (allS (Or.inr sz_b101) all0)
  have N151 := Fr.app N150 N151q
  obtain ⟨cq156, kq156, q156a, q156b, q156c⟩ := isOf hZ (rfl : T151.heap = T151.heap) F151_0
  obtain ⟨_, _, ⟨T156, L156, k156, n156⟩, -, X156, ⟨Lc156, hQ156, l156, y156, z156⟩, st156⟩ := X151.virtualBack hx (y := (⟨"com/example/millrace/millrace/queue/Message", "addJournalBytes", "(J)V"⟩ : MethodName)) (z := (⟨"com/example/millrace/millrace/queue/Message", "addJournalBytes", "(J)V"⟩ : MethodName)) hown (mvT hZ (hw _ (List.mem_of_getElem? (i := 29) rfl))) (mvT hZ (hw _ (List.mem_of_getElem? (i := 30) rfl))) (notFace_of_selects (args := #[]) (mvT hZ (hw _ (List.mem_of_getElem? (i := 32) rfl)))) (mvT hZ (hw _ (List.mem_of_getElem? (i := 32) rfl))) (mvT hZ (hw _ (List.mem_of_getElem? (i := 31) rfl))) (by decide) (backOf (W := 0) (rm4 l Z a0 hw [] b101 q2 (0 : Int64) q4 (.ref b112) (1 : Int32) .null q5 q5 p3 (T151.heap) n0 Z154 F151_1 F151_0 F151_2 F151_3 F151_4 F151_5 F151_6 F151_7 F151_8 g_b101) hZ (hw _ (List.mem_of_getElem? (i := 33) rfl)) (hw _ (List.mem_of_getElem? (i := 2) rfl)) (by decide) (by decide)) q156a q156c (g := (mkF m 62 #[.val (.long q0), .second, .val (.long q1), .second, .val (.long q2), .second, .val (.int p3), .val (.long q4), .second, .val (.long q5), .second, .val (.ref b101), .val (.long v2), .second, .val (.long v3), .second, .val (.long (0 : Int64)), .second, .unset, .unset, .unset, .unset] [(.long q2), (.ref b101)])) rfl (by rw [hml]; rfl) (Steps.refl _) (argsL := [(.long q2)]) (rest := []) (lenOf pd3 rfl) rfl (by show 2 * 0 + _ ≤ _; exact Nat.le_of_eq rfl) (hb hby at_62) (fun _ _ => ⟨rfl, (rfl : T151.heap = T151.heap), (by decide : 2 + 0 ≤ _), (by decide : 13 + 0 ≤ _)⟩)
  dsimp only [Pt.U, Pt.locs, Pt.cells, Pt.slots] at X156 l156 y156 z156 st156 hQ156
  subst l156 y156 z156
  obtain ⟨rfl, N156q, K156q, F156_0, F156_1, F156_2, F156_3, F156_4, F156_5, F156_6, F156_7, F156_8⟩ := hQ156
  have F157 := F151_0.keep K156q
  have F158 := F153.keep K156q (ninS (Ne.symm ne_b101_b112) nin0)
  have Z159 : n0 ≤ T156.heap.size := Nat.le_trans Z154 K156q.1
  have K160 : Keep h0 T156.heap [] := K155.trans K156q (allS (Or.inr sz_b101) all0)
  have N156 := Fr.app N151 N156q
  obtain ⟨cq161, kq161, q161a, q161b, q161c⟩ := isOf hZ (rfl : T156.heap = T156.heap) F156_0
  obtain ⟨_, _, ⟨T161, L161, k161, n161⟩, -, X161, ⟨Lc161, hQ161, l161, y161, z161⟩, st161⟩ := X156.virtualBack hx (y := (⟨"com/example/millrace/millrace/queue/Message", "forgetLaterBytes", "()J"⟩ : MethodName)) (z := (⟨"com/example/millrace/millrace/queue/Message", "forgetLaterBytes", "()J"⟩ : MethodName)) hown (mvT hZ (hw _ (List.mem_of_getElem? (i := 36) rfl))) (mvT hZ (hw _ (List.mem_of_getElem? (i := 37) rfl))) (notFace_of_selects (args := #[]) (mvT hZ (hw _ (List.mem_of_getElem? (i := 39) rfl)))) (mvT hZ (hw _ (List.mem_of_getElem? (i := 39) rfl))) (mvT hZ (hw _ (List.mem_of_getElem? (i := 38) rfl))) (by decide) (backOf (W := 0) (rm5 l Z a0 hw [] b101 ((0 : Int64) + q2) q4 (.ref b112) (1 : Int32) .null q5 q5 p3 (T156.heap) n0 Z159 F156_1 F156_0 F156_2 F156_3 F156_4 F156_5 F156_6 F156_7 F156_8 g_b101) hZ (hw _ (List.mem_of_getElem? (i := 40) rfl)) (hw _ (List.mem_of_getElem? (i := 2) rfl)) (by decide) (by decide)) q161a q161c (g := (mkF m 67 #[.val (.long q0), .second, .val (.long q1), .second, .val (.long q2), .second, .val (.int p3), .val (.long q4), .second, .val (.long q5), .second, .val (.ref b101), .val (.long v2), .second, .val (.long v3), .second, .val (.long (0 : Int64)), .second, .unset, .unset, .unset, .unset] [(.ref b101)])) rfl (by rw [hml]; rfl) (Steps.refl _) (argsL := []) (rest := []) (lenOf pd4 rfl) rfl (by show 2 * 0 + _ ≤ _; exact Nat.le_of_eq rfl) (hb hby at_67) (fun _ _ => ⟨rfl, (rfl : T156.heap = T156.heap), (by decide : 2 + 0 ≤ _), (by decide : 13 + 0 ≤ _)⟩)
  dsimp only [Pt.U, Pt.locs, Pt.cells, Pt.slots] at X161 l161 y161 z161 st161 hQ161
  subst l161 y161 z161
  obtain ⟨rfl, N161q, K161q, F161_0, F161_1, F161_2, F161_3, F161_4, F161_5, F161_6, F161_7, F161_8⟩ := hQ161
  have F162 := F156_0.keep K161q
  have F163 := F158.keep K161q (ninS (Ne.symm ne_b101_b112) nin0)
  have Z164 : n0 ≤ T161.heap.size := Nat.le_trans Z159 K161q.1
  have K165 : Keep h0 T161.heap [] := K160.trans K161q (allS (Or.inr sz_b101) all0)
  have N161 := Fr.app N156 N161q
  obtain ⟨v4, hv4⟩ : ∃ z : Int64, z = ((0 : Int64) + q2) := ⟨_, rfl⟩
  obtain ⟨cq166, kq166, q166a, q166b, q166c⟩ := isOf hZ (rfl : T161.heap = T161.heap) F161_0
  obtain ⟨_, _, ⟨T166, L166, k166, n166⟩, -, X166, ⟨Lc166, hQ166, l166, y166, z166⟩, st166⟩ := X161.virtualBack hx (y := (⟨"com/example/millrace/millrace/queue/Message", "journalBytes", "()J"⟩ : MethodName)) (z := (⟨"com/example/millrace/millrace/queue/Message", "journalBytes", "()J"⟩ : MethodName)) hown (mvT hZ (hw _ (List.mem_of_getElem? (i := 41) rfl))) (mvT hZ (hw _ (List.mem_of_getElem? (i := 42) rfl))) (notFace_of_selects (args := #[]) (mvT hZ (hw _ (List.mem_of_getElem? (i := 44) rfl)))) (mvT hZ (hw _ (List.mem_of_getElem? (i := 44) rfl))) (mvT hZ (hw _ (List.mem_of_getElem? (i := 43) rfl))) (by decide) (backOf (W := 0) (rm6 l Z a0 hw [] b101 p3 (0 : Int64) (T161.heap) n0 Z164 F161_8 F161_1) hZ (hw _ (List.mem_of_getElem? (i := 45) rfl)) (hw _ (List.mem_of_getElem? (i := 2) rfl)) (by decide) (by decide)) q166a q166c (g := (mkF m 74 #[.val (.long q0), .second, .val (.long q1), .second, .val (.long q2), .second, .val (.int p3), .val (.long q4), .second, .val (.long q5), .second, .val (.ref b101), .val (.long v2), .second, .val (.long v3), .second, .val (.long (0 : Int64)), .second, .val (.long v4), .second, .unset, .unset] [(.ref b101)])) rfl (by rw [hml]; rfl) (Steps.refl _) (argsL := []) (rest := []) (lenOf pd4 rfl) rfl (by show 2 * 0 + _ ≤ _; exact Nat.le_of_eq rfl) (hb hby at_74) (fun _ _ => ⟨rfl, (rfl : T161.heap = T161.heap), (by decide : 2 + 0 ≤ _), (by decide : 13 + 0 ≤ _)⟩)
  dsimp only [Pt.U, Pt.locs, Pt.cells, Pt.slots] at X166 l166 y166 z166 st166 hQ166
  subst l166 y166 z166
  obtain ⟨rfl, N166q, e166⟩ := hQ166
  have N166 := Fr.app N161 N166q
  obtain ⟨v9, hv9⟩ : ∃ z : Int32, z = (if v4 = q2 then (1 : Int32) else (0 : Int32)) := ⟨_, rfl⟩
  obtain ⟨v10, hv10⟩ : ∃ z : Int32, z = (if (0 : Int64) = (0 : Int64) then v9 else (0 : Int32)) := ⟨_, rfl⟩
  obtain ⟨v11, hv11⟩ : ∃ z : Int32, z = (if v3 = (p3.toInt64) then v10 else (0 : Int32)) := ⟨_, rfl⟩
  obtain ⟨v12, hv12⟩ : ∃ z : Int32, z = (if v2 = (q0 + q1) then v11 else (0 : Int32)) := ⟨_, rfl⟩
  obtain ⟨T178, lc178, X178, N178, e178, st178⟩ := own_mrg (n0 := n0) (h := T161.heap) (g := (mkF m 85 #[.val (.long q0), .second, .val (.long q1), .second, .val (.long q2), .second, .val (.int p3), .val (.long q4), .second, .val (.long q5), .second, .val (.ref b101), .val (.long v2), .second, .val (.long v3), .second, .val (.long (0 : Int64)), .second, .val (.long v4), .second, .val (.long v3), .second] [(.int (lcmpW v2 (q0 + q1)))])) (g' := (mkF m 126 #[.val (.long q0), .second, .val (.long q1), .second, .val (.long q2), .second, .val (.int p3), .val (.long q4), .second, .val (.long q5), .second, .val (.ref b101), .val (.long v2), .second, .val (.long v3), .second, .val (.long (0 : Int64)), .second, .val (.long v4), .second, .val (.long v3), .second] [(.int v12)])) X166 (by
    by_cases hc85_5 : v2 = (q0 + q1)
    · obtain ⟨T175, lc175, X175, N175, e175, st175⟩ := own_mrg (n0 := n0) (h := T161.heap) (g := (mkF m 94 #[.val (.long q0), .second, .val (.long q1), .second, .val (.long q2), .second, .val (.int p3), .val (.long q4), .second, .val (.long q5), .second, .val (.ref b101), .val (.long v2), .second, .val (.long v3), .second, .val (.long (0 : Int64)), .second, .val (.long v4), .second, .val (.long v3), .second] [(.int (lcmpW v3 (p3.toInt64)))])) (g' := (mkF m 126 #[.val (.long q0), .second, .val (.long q1), .second, .val (.long q2), .second, .val (.int p3), .val (.long q4), .second, .val (.long q5), .second, .val (.ref b101), .val (.long v2), .second, .val (.long v3), .second, .val (.long (0 : Int64)), .second, .val (.long v4), .second, .val (.long v3), .second] [(.int v11)])) X166 (by
        by_cases hc94_6 : v3 = (p3.toInt64)
        · obtain ⟨T172, lc172, X172, N172, e172, st172⟩ := own_mrg (n0 := n0) (h := T161.heap) (g := (mkF m 101 #[.val (.long q0), .second, .val (.long q1), .second, .val (.long q2), .second, .val (.int p3), .val (.long q4), .second, .val (.long q5), .second, .val (.ref b101), .val (.long v2), .second, .val (.long v3), .second, .val (.long (0 : Int64)), .second, .val (.long v4), .second, .val (.long v3), .second] [(.int (lcmpW (0 : Int64) (0 : Int64)))])) (g' := (mkF m 126 #[.val (.long q0), .second, .val (.long q1), .second, .val (.long q2), .second, .val (.int p3), .val (.long q4), .second, .val (.long q5), .second, .val (.ref b101), .val (.long v2), .second, .val (.long v3), .second, .val (.long (0 : Int64)), .second, .val (.long v4), .second, .val (.long v3), .second] [(.int v10)])) X166 (by
            by_cases hc101_7 : (0 : Int64) = (0 : Int64)
            · obtain ⟨T169, lc169, X169, N169, e169, st169⟩ := own_mrg (n0 := n0) (h := T161.heap) (g := (mkF m 109 #[.val (.long q0), .second, .val (.long q1), .second, .val (.long q2), .second, .val (.int p3), .val (.long q4), .second, .val (.long q5), .second, .val (.ref b101), .val (.long v2), .second, .val (.long v3), .second, .val (.long (0 : Int64)), .second, .val (.long v4), .second, .val (.long v3), .second] [(.int (lcmpW v4 q2))])) (g' := (mkF m 126 #[.val (.long q0), .second, .val (.long q1), .second, .val (.long q2), .second, .val (.int p3), .val (.long q4), .second, .val (.long q5), .second, .val (.ref b101), .val (.long v2), .second, .val (.long v3), .second, .val (.long (0 : Int64)), .second, .val (.long v4), .second, .val (.long v3), .second] [(.int v9)])) X166 (by
                by_cases hc109_8 : v4 = q2
                · have hgo167 : ∀ t, Steps p.tables e below (T166.setTop (mkF m 126 #[.val (.long q0), .second, .val (.long q1), .second, .val (.long q2), .second, .val (.int p3), .val (.long q4), .second, .val (.long q5), .second, .val (.ref b101), .val (.long v2), .second, .val (.long v3), .second, .val (.long (0 : Int64)), .second, .val (.long v4), .second, .val (.long v3), .second] [(.int (1 : Int32))])) t → Steps p.tables e below (T166.setTop (mkF m 109 #[.val (.long q0), .second, .val (.long q1), .second, .val (.long q2), .second, .val (.int p3), .val (.long q4), .second, .val (.long q5), .second, .val (.ref b101), .val (.long v2), .second, .val (.long v3), .second, .val (.long (0 : Int64)), .second, .val (.long v4), .second, .val (.long v3), .second] [(.int (lcmpW v4 q2))])) t := by
                    intro t kt
                    show Steps p.tables e below (T166.setTop (mkF m 109 #[.val (.long q0), .second, .val (.long q1), .second, .val (.long q2), .second, .val (.int p3), .val (.long q4), .second, .val (.long q5), .second, .val (.ref b101), .val (.long v2), .second, .val (.long v3), .second, .val (.long (0 : Int64)), .second, .val (.long v4), .second, .val (.long v3), .second] [(.int (lcmpW v4 q2))])) _
                    refine XS.ifNo X166.here hx rfl (hb hby at_109) rfl ((if0 _ _).trans (teq (own_lc_eq hc109_8)).2) ?_
                    show Steps p.tables e below (T166.setTop (mkF m 112 #[.val (.long q0), .second, .val (.long q1), .second, .val (.long q2), .second, .val (.int p3), .val (.long q4), .second, .val (.long q5), .second, .val (.ref b101), .val (.long v2), .second, .val (.long v3), .second, .val (.long (0 : Int64)), .second, .val (.long v4), .second, .val (.long v3), .second] [])) _
                    refine XS.lload X166.here hx rfl (hb hby at_112) rfl ?_
                    show Steps p.tables e below (T166.setTop (mkF m 114 #[.val (.long q0), .second, .val (.long q1), .second, .val (.long q2), .second, .val (.int p3), .val (.long q4), .second, .val (.long q5), .second, .val (.ref b101), .val (.long v2), .second, .val (.long v3), .second, .val (.long (0 : Int64)), .second, .val (.long v4), .second, .val (.long v3), .second] [(.long v3)])) _
                    refine XS.iload X166.here hx rfl (hb hby at_114) rfl ?_
                    show Steps p.tables e below (T166.setTop (mkF m 116 #[.val (.long q0), .second, .val (.long q1), .second, .val (.long q2), .second, .val (.int p3), .val (.long q4), .second, .val (.long q5), .second, .val (.ref b101), .val (.long v2), .second, .val (.long v3), .second, .val (.long (0 : Int64)), .second, .val (.long v4), .second, .val (.long v3), .second] [(.int p3), (.long v3)])) _
                    refine XS.i2l X166.here hx rfl (hb hby at_116) rfl ?_
                    show Steps p.tables e below (T166.setTop (mkF m 117 #[.val (.long q0), .second, .val (.long q1), .second, .val (.long q2), .second, .val (.int p3), .val (.long q4), .second, .val (.long q5), .second, .val (.ref b101), .val (.long v2), .second, .val (.long v3), .second, .val (.long (0 : Int64)), .second, .val (.long v4), .second, .val (.long v3), .second] [(.long (p3.toInt64)), (.long v3)])) _
                    refine XS.lcmp X166.here hx rfl (hb hby at_117) rfl ?_
                    show Steps p.tables e below (T166.setTop (mkF m 118 #[.val (.long q0), .second, .val (.long q1), .second, .val (.long q2), .second, .val (.int p3), .val (.long q4), .second, .val (.long q5), .second, .val (.ref b101), .val (.long v2), .second, .val (.long v3), .second, .val (.long (0 : Int64)), .second, .val (.long v4), .second, .val (.long v3), .second] [(.int (lcmpW v3 (p3.toInt64)))])) _
                    refine XS.ifNo X166.here hx rfl (hb hby at_118) rfl ((if0 _ _).trans (teq (own_lc_eq hc94_6)).2) ?_
                    show Steps p.tables e below (T166.setTop (mkF m 121 #[.val (.long q0), .second, .val (.long q1), .second, .val (.long q2), .second, .val (.int p3), .val (.long q4), .second, .val (.long q5), .second, .val (.ref b101), .val (.long v2), .second, .val (.long v3), .second, .val (.long (0 : Int64)), .second, .val (.long v4), .second, .val (.long v3), .second] [])) _
                    refine XS.iconst X166.here hx rfl (hb hby at_121) ?_
                    show Steps p.tables e below (T166.setTop (mkF m 122 #[.val (.long q0), .second, .val (.long q1), .second, .val (.long q2), .second, .val (.int p3), .val (.long q4), .second, .val (.long q5), .second, .val (.ref b101), .val (.long v2), .second, .val (.long v3), .second, .val (.long (0 : Int64)), .second, .val (.long v4), .second, .val (.long v3), .second] [(.int (1 : Int32))])) _
                    refine XS.goto X166.here hx rfl (pc0 := 122) (pc' := 126) rfl (hb hby at_122) (by decide) (by decide) ?_
                    exact kt
                  refine own_arm hgo167 ?_
                  exact own_armEnd X166 N166 e166 (by rw [hv9.trans (if_pos hc109_8)])
                · have hgo168 : ∀ t, Steps p.tables e below (T166.setTop (mkF m 126 #[.val (.long q0), .second, .val (.long q1), .second, .val (.long q2), .second, .val (.int p3), .val (.long q4), .second, .val (.long q5), .second, .val (.ref b101), .val (.long v2), .second, .val (.long v3), .second, .val (.long (0 : Int64)), .second, .val (.long v4), .second, .val (.long v3), .second] [(.int (0 : Int32))])) t → Steps p.tables e below (T166.setTop (mkF m 109 #[.val (.long q0), .second, .val (.long q1), .second, .val (.long q2), .second, .val (.int p3), .val (.long q4), .second, .val (.long q5), .second, .val (.ref b101), .val (.long v2), .second, .val (.long v3), .second, .val (.long (0 : Int64)), .second, .val (.long v4), .second, .val (.long v3), .second] [(.int (lcmpW v4 q2))])) t := by
                    intro t kt
                    show Steps p.tables e below (T166.setTop (mkF m 109 #[.val (.long q0), .second, .val (.long q1), .second, .val (.long q2), .second, .val (.int p3), .val (.long q4), .second, .val (.long q5), .second, .val (.ref b101), .val (.long v2), .second, .val (.long v3), .second, .val (.long (0 : Int64)), .second, .val (.long v4), .second, .val (.long v3), .second] [(.int (lcmpW v4 q2))])) _
                    refine XS.ifYes X166.here hx rfl (pc0 := 109) (pc' := 125) rfl (hb hby at_109) rfl ((if0 _ _).trans (feq (own_lc_neq hc109_8)).2) (by decide) (by decide) ?_
                    show Steps p.tables e below (T166.setTop (mkF m 125 #[.val (.long q0), .second, .val (.long q1), .second, .val (.long q2), .second, .val (.int p3), .val (.long q4), .second, .val (.long q5), .second, .val (.ref b101), .val (.long v2), .second, .val (.long v3), .second, .val (.long (0 : Int64)), .second, .val (.long v4), .second, .val (.long v3), .second] [])) _
                    refine XS.iconst X166.here hx rfl (hb hby at_125) ?_
                    exact kt
                  refine own_arm hgo168 ?_
                  exact own_armEnd X166 N166 e166 (by rw [hv9.trans (if_neg hc109_8)]))
              have hgo170 : ∀ t, Steps p.tables e below (T169.setTop (mkF m 126 #[.val (.long q0), .second, .val (.long q1), .second, .val (.long q2), .second, .val (.int p3), .val (.long q4), .second, .val (.long q5), .second, .val (.ref b101), .val (.long v2), .second, .val (.long v3), .second, .val (.long (0 : Int64)), .second, .val (.long v4), .second, .val (.long v3), .second] [(.int v9)])) t → Steps p.tables e below (T166.setTop (mkF m 101 #[.val (.long q0), .second, .val (.long q1), .second, .val (.long q2), .second, .val (.int p3), .val (.long q4), .second, .val (.long q5), .second, .val (.ref b101), .val (.long v2), .second, .val (.long v3), .second, .val (.long (0 : Int64)), .second, .val (.long v4), .second, .val (.long v3), .second] [(.int (lcmpW (0 : Int64) (0 : Int64)))])) t := by
                intro t kt
                show Steps p.tables e below (T166.setTop (mkF m 101 #[.val (.long q0), .second, .val (.long q1), .second, .val (.long q2), .second, .val (.int p3), .val (.long q4), .second, .val (.long q5), .second, .val (.ref b101), .val (.long v2), .second, .val (.long v3), .second, .val (.long (0 : Int64)), .second, .val (.long v4), .second, .val (.long v3), .second] [(.int (lcmpW (0 : Int64) (0 : Int64)))])) _
                refine XS.ifNo X166.here hx rfl (hb hby at_101) rfl ((if0 _ _).trans (teq (own_lc_eq hc101_7)).2) ?_
                show Steps p.tables e below (T166.setTop (mkF m 104 #[.val (.long q0), .second, .val (.long q1), .second, .val (.long q2), .second, .val (.int p3), .val (.long q4), .second, .val (.long q5), .second, .val (.ref b101), .val (.long v2), .second, .val (.long v3), .second, .val (.long (0 : Int64)), .second, .val (.long v4), .second, .val (.long v3), .second] [])) _
                refine XS.lload X166.here hx rfl (hb hby at_104) rfl ?_
                show Steps p.tables e below (T166.setTop (mkF m 106 #[.val (.long q0), .second, .val (.long q1), .second, .val (.long q2), .second, .val (.int p3), .val (.long q4), .second, .val (.long q5), .second, .val (.ref b101), .val (.long v2), .second, .val (.long v3), .second, .val (.long (0 : Int64)), .second, .val (.long v4), .second, .val (.long v3), .second] [(.long v4)])) _
                refine XS.lload X166.here hx rfl (hb hby at_106) rfl ?_
                show Steps p.tables e below (T166.setTop (mkF m 108 #[.val (.long q0), .second, .val (.long q1), .second, .val (.long q2), .second, .val (.int p3), .val (.long q4), .second, .val (.long q5), .second, .val (.ref b101), .val (.long v2), .second, .val (.long v3), .second, .val (.long (0 : Int64)), .second, .val (.long v4), .second, .val (.long v3), .second] [(.long q2), (.long v4)])) _
                refine XS.lcmp X166.here hx rfl (hb hby at_108) rfl ?_
                show Steps p.tables e below (T166.setTop (mkF m 109 #[.val (.long q0), .second, .val (.long q1), .second, .val (.long q2), .second, .val (.int p3), .val (.long q4), .second, .val (.long q5), .second, .val (.ref b101), .val (.long v2), .second, .val (.long v3), .second, .val (.long (0 : Int64)), .second, .val (.long v4), .second, .val (.long v3), .second] [(.int (lcmpW v4 q2))])) _
                refine st169 _ ?_
                exact kt
              refine own_arm hgo170 ?_
              exact own_armEnd X169 N169 e169 (by rw [hv10.trans (if_pos hc101_7)])
            · have hgo171 : ∀ t, Steps p.tables e below (T166.setTop (mkF m 126 #[.val (.long q0), .second, .val (.long q1), .second, .val (.long q2), .second, .val (.int p3), .val (.long q4), .second, .val (.long q5), .second, .val (.ref b101), .val (.long v2), .second, .val (.long v3), .second, .val (.long (0 : Int64)), .second, .val (.long v4), .second, .val (.long v3), .second] [(.int (0 : Int32))])) t → Steps p.tables e below (T166.setTop (mkF m 101 #[.val (.long q0), .second, .val (.long q1), .second, .val (.long q2), .second, .val (.int p3), .val (.long q4), .second, .val (.long q5), .second, .val (.ref b101), .val (.long v2), .second, .val (.long v3), .second, .val (.long (0 : Int64)), .second, .val (.long v4), .second, .val (.long v3), .second] [(.int (lcmpW (0 : Int64) (0 : Int64)))])) t := by
                intro t kt
                show Steps p.tables e below (T166.setTop (mkF m 101 #[.val (.long q0), .second, .val (.long q1), .second, .val (.long q2), .second, .val (.int p3), .val (.long q4), .second, .val (.long q5), .second, .val (.ref b101), .val (.long v2), .second, .val (.long v3), .second, .val (.long (0 : Int64)), .second, .val (.long v4), .second, .val (.long v3), .second] [(.int (lcmpW (0 : Int64) (0 : Int64)))])) _
                refine XS.ifYes X166.here hx rfl (pc0 := 101) (pc' := 125) rfl (hb hby at_101) rfl ((if0 _ _).trans (feq (own_lc_neq hc101_7)).2) (by decide) (by decide) ?_
                show Steps p.tables e below (T166.setTop (mkF m 125 #[.val (.long q0), .second, .val (.long q1), .second, .val (.long q2), .second, .val (.int p3), .val (.long q4), .second, .val (.long q5), .second, .val (.ref b101), .val (.long v2), .second, .val (.long v3), .second, .val (.long (0 : Int64)), .second, .val (.long v4), .second, .val (.long v3), .second] [])) _
                refine XS.iconst X166.here hx rfl (hb hby at_125) ?_
                exact kt
              refine own_arm hgo171 ?_
              exact own_armEnd X166 N166 e166 (by rw [hv10.trans (if_neg hc101_7)]))
          have hgo173 : ∀ t, Steps p.tables e below (T172.setTop (mkF m 126 #[.val (.long q0), .second, .val (.long q1), .second, .val (.long q2), .second, .val (.int p3), .val (.long q4), .second, .val (.long q5), .second, .val (.ref b101), .val (.long v2), .second, .val (.long v3), .second, .val (.long (0 : Int64)), .second, .val (.long v4), .second, .val (.long v3), .second] [(.int v10)])) t → Steps p.tables e below (T166.setTop (mkF m 94 #[.val (.long q0), .second, .val (.long q1), .second, .val (.long q2), .second, .val (.int p3), .val (.long q4), .second, .val (.long q5), .second, .val (.ref b101), .val (.long v2), .second, .val (.long v3), .second, .val (.long (0 : Int64)), .second, .val (.long v4), .second, .val (.long v3), .second] [(.int (lcmpW v3 (p3.toInt64)))])) t := by
            intro t kt
            show Steps p.tables e below (T166.setTop (mkF m 94 #[.val (.long q0), .second, .val (.long q1), .second, .val (.long q2), .second, .val (.int p3), .val (.long q4), .second, .val (.long q5), .second, .val (.ref b101), .val (.long v2), .second, .val (.long v3), .second, .val (.long (0 : Int64)), .second, .val (.long v4), .second, .val (.long v3), .second] [(.int (lcmpW v3 (p3.toInt64)))])) _
            refine XS.ifNo X166.here hx rfl (hb hby at_94) rfl ((if0 _ _).trans (teq (own_lc_eq hc94_6)).2) ?_
            show Steps p.tables e below (T166.setTop (mkF m 97 #[.val (.long q0), .second, .val (.long q1), .second, .val (.long q2), .second, .val (.int p3), .val (.long q4), .second, .val (.long q5), .second, .val (.ref b101), .val (.long v2), .second, .val (.long v3), .second, .val (.long (0 : Int64)), .second, .val (.long v4), .second, .val (.long v3), .second] [])) _
            refine XS.lload X166.here hx rfl (hb hby at_97) rfl ?_
            show Steps p.tables e below (T166.setTop (mkF m 99 #[.val (.long q0), .second, .val (.long q1), .second, .val (.long q2), .second, .val (.int p3), .val (.long q4), .second, .val (.long q5), .second, .val (.ref b101), .val (.long v2), .second, .val (.long v3), .second, .val (.long (0 : Int64)), .second, .val (.long v4), .second, .val (.long v3), .second] [(.long (0 : Int64))])) _
            refine XS.lconst X166.here hx rfl (hb hby at_99) ?_
            show Steps p.tables e below (T166.setTop (mkF m 100 #[.val (.long q0), .second, .val (.long q1), .second, .val (.long q2), .second, .val (.int p3), .val (.long q4), .second, .val (.long q5), .second, .val (.ref b101), .val (.long v2), .second, .val (.long v3), .second, .val (.long (0 : Int64)), .second, .val (.long v4), .second, .val (.long v3), .second] [(.long (0 : Int64)), (.long (0 : Int64))])) _
            refine XS.lcmp X166.here hx rfl (hb hby at_100) rfl ?_
            show Steps p.tables e below (T166.setTop (mkF m 101 #[.val (.long q0), .second, .val (.long q1), .second, .val (.long q2), .second, .val (.int p3), .val (.long q4), .second, .val (.long q5), .second, .val (.ref b101), .val (.long v2), .second, .val (.long v3), .second, .val (.long (0 : Int64)), .second, .val (.long v4), .second, .val (.long v3), .second] [(.int (lcmpW (0 : Int64) (0 : Int64)))])) _
            refine st172 _ ?_
            exact kt
          refine own_arm hgo173 ?_
          exact own_armEnd X172 N172 e172 (by rw [hv11.trans (if_pos hc94_6)])
        · have hgo174 : ∀ t, Steps p.tables e below (T166.setTop (mkF m 126 #[.val (.long q0), .second, .val (.long q1), .second, .val (.long q2), .second, .val (.int p3), .val (.long q4), .second, .val (.long q5), .second, .val (.ref b101), .val (.long v2), .second, .val (.long v3), .second, .val (.long (0 : Int64)), .second, .val (.long v4), .second, .val (.long v3), .second] [(.int (0 : Int32))])) t → Steps p.tables e below (T166.setTop (mkF m 94 #[.val (.long q0), .second, .val (.long q1), .second, .val (.long q2), .second, .val (.int p3), .val (.long q4), .second, .val (.long q5), .second, .val (.ref b101), .val (.long v2), .second, .val (.long v3), .second, .val (.long (0 : Int64)), .second, .val (.long v4), .second, .val (.long v3), .second] [(.int (lcmpW v3 (p3.toInt64)))])) t := by
            intro t kt
            show Steps p.tables e below (T166.setTop (mkF m 94 #[.val (.long q0), .second, .val (.long q1), .second, .val (.long q2), .second, .val (.int p3), .val (.long q4), .second, .val (.long q5), .second, .val (.ref b101), .val (.long v2), .second, .val (.long v3), .second, .val (.long (0 : Int64)), .second, .val (.long v4), .second, .val (.long v3), .second] [(.int (lcmpW v3 (p3.toInt64)))])) _
            refine XS.ifYes X166.here hx rfl (pc0 := 94) (pc' := 125) rfl (hb hby at_94) rfl ((if0 _ _).trans (feq (own_lc_neq hc94_6)).2) (by decide) (by decide) ?_
            show Steps p.tables e below (T166.setTop (mkF m 125 #[.val (.long q0), .second, .val (.long q1), .second, .val (.long q2), .second, .val (.int p3), .val (.long q4), .second, .val (.long q5), .second, .val (.ref b101), .val (.long v2), .second, .val (.long v3), .second, .val (.long (0 : Int64)), .second, .val (.long v4), .second, .val (.long v3), .second] [])) _
            refine XS.iconst X166.here hx rfl (hb hby at_125) ?_
            exact kt
          refine own_arm hgo174 ?_
          exact own_armEnd X166 N166 e166 (by rw [hv11.trans (if_neg hc94_6)]))
      have hgo176 : ∀ t, Steps p.tables e below (T175.setTop (mkF m 126 #[.val (.long q0), .second, .val (.long q1), .second, .val (.long q2), .second, .val (.int p3), .val (.long q4), .second, .val (.long q5), .second, .val (.ref b101), .val (.long v2), .second, .val (.long v3), .second, .val (.long (0 : Int64)), .second, .val (.long v4), .second, .val (.long v3), .second] [(.int v11)])) t → Steps p.tables e below (T166.setTop (mkF m 85 #[.val (.long q0), .second, .val (.long q1), .second, .val (.long q2), .second, .val (.int p3), .val (.long q4), .second, .val (.long q5), .second, .val (.ref b101), .val (.long v2), .second, .val (.long v3), .second, .val (.long (0 : Int64)), .second, .val (.long v4), .second, .val (.long v3), .second] [(.int (lcmpW v2 (q0 + q1)))])) t := by
        intro t kt
        show Steps p.tables e below (T166.setTop (mkF m 85 #[.val (.long q0), .second, .val (.long q1), .second, .val (.long q2), .second, .val (.int p3), .val (.long q4), .second, .val (.long q5), .second, .val (.ref b101), .val (.long v2), .second, .val (.long v3), .second, .val (.long (0 : Int64)), .second, .val (.long v4), .second, .val (.long v3), .second] [(.int (lcmpW v2 (q0 + q1)))])) _
        refine XS.ifNo X166.here hx rfl (hb hby at_85) rfl ((if0 _ _).trans (teq (own_lc_eq hc85_5)).2) ?_
        show Steps p.tables e below (T166.setTop (mkF m 88 #[.val (.long q0), .second, .val (.long q1), .second, .val (.long q2), .second, .val (.int p3), .val (.long q4), .second, .val (.long q5), .second, .val (.ref b101), .val (.long v2), .second, .val (.long v3), .second, .val (.long (0 : Int64)), .second, .val (.long v4), .second, .val (.long v3), .second] [])) _
        refine XS.lload X166.here hx rfl (hb hby at_88) rfl ?_
        show Steps p.tables e below (T166.setTop (mkF m 90 #[.val (.long q0), .second, .val (.long q1), .second, .val (.long q2), .second, .val (.int p3), .val (.long q4), .second, .val (.long q5), .second, .val (.ref b101), .val (.long v2), .second, .val (.long v3), .second, .val (.long (0 : Int64)), .second, .val (.long v4), .second, .val (.long v3), .second] [(.long v3)])) _
        refine XS.iload X166.here hx rfl (hb hby at_90) rfl ?_
        show Steps p.tables e below (T166.setTop (mkF m 92 #[.val (.long q0), .second, .val (.long q1), .second, .val (.long q2), .second, .val (.int p3), .val (.long q4), .second, .val (.long q5), .second, .val (.ref b101), .val (.long v2), .second, .val (.long v3), .second, .val (.long (0 : Int64)), .second, .val (.long v4), .second, .val (.long v3), .second] [(.int p3), (.long v3)])) _
        refine XS.i2l X166.here hx rfl (hb hby at_92) rfl ?_
        show Steps p.tables e below (T166.setTop (mkF m 93 #[.val (.long q0), .second, .val (.long q1), .second, .val (.long q2), .second, .val (.int p3), .val (.long q4), .second, .val (.long q5), .second, .val (.ref b101), .val (.long v2), .second, .val (.long v3), .second, .val (.long (0 : Int64)), .second, .val (.long v4), .second, .val (.long v3), .second] [(.long (p3.toInt64)), (.long v3)])) _
        refine XS.lcmp X166.here hx rfl (hb hby at_93) rfl ?_
        show Steps p.tables e below (T166.setTop (mkF m 94 #[.val (.long q0), .second, .val (.long q1), .second, .val (.long q2), .second, .val (.int p3), .val (.long q4), .second, .val (.long q5), .second, .val (.ref b101), .val (.long v2), .second, .val (.long v3), .second, .val (.long (0 : Int64)), .second, .val (.long v4), .second, .val (.long v3), .second] [(.int (lcmpW v3 (p3.toInt64)))])) _
        refine st175 _ ?_
        exact kt
      refine own_arm hgo176 ?_
      exact own_armEnd X175 N175 e175 (by rw [hv12.trans (if_pos hc85_5)])
    · have hgo177 : ∀ t, Steps p.tables e below (T166.setTop (mkF m 126 #[.val (.long q0), .second, .val (.long q1), .second, .val (.long q2), .second, .val (.int p3), .val (.long q4), .second, .val (.long q5), .second, .val (.ref b101), .val (.long v2), .second, .val (.long v3), .second, .val (.long (0 : Int64)), .second, .val (.long v4), .second, .val (.long v3), .second] [(.int (0 : Int32))])) t → Steps p.tables e below (T166.setTop (mkF m 85 #[.val (.long q0), .second, .val (.long q1), .second, .val (.long q2), .second, .val (.int p3), .val (.long q4), .second, .val (.long q5), .second, .val (.ref b101), .val (.long v2), .second, .val (.long v3), .second, .val (.long (0 : Int64)), .second, .val (.long v4), .second, .val (.long v3), .second] [(.int (lcmpW v2 (q0 + q1)))])) t := by
        intro t kt
        show Steps p.tables e below (T166.setTop (mkF m 85 #[.val (.long q0), .second, .val (.long q1), .second, .val (.long q2), .second, .val (.int p3), .val (.long q4), .second, .val (.long q5), .second, .val (.ref b101), .val (.long v2), .second, .val (.long v3), .second, .val (.long (0 : Int64)), .second, .val (.long v4), .second, .val (.long v3), .second] [(.int (lcmpW v2 (q0 + q1)))])) _
        refine XS.ifYes X166.here hx rfl (pc0 := 85) (pc' := 125) rfl (hb hby at_85) rfl ((if0 _ _).trans (feq (own_lc_neq hc85_5)).2) (by decide) (by decide) ?_
        show Steps p.tables e below (T166.setTop (mkF m 125 #[.val (.long q0), .second, .val (.long q1), .second, .val (.long q2), .second, .val (.int p3), .val (.long q4), .second, .val (.long q5), .second, .val (.ref b101), .val (.long v2), .second, .val (.long v3), .second, .val (.long (0 : Int64)), .second, .val (.long v4), .second, .val (.long v3), .second] [])) _
        refine XS.iconst X166.here hx rfl (hb hby at_125) ?_
        exact kt
      refine own_arm hgo177 ?_
      exact own_armEnd X166 N166 e166 (by rw [hv12.trans (if_neg hc85_5)]))
  have hgo179 : ∀ t, Steps p.tables e below (T178.setTop (mkF m 126 #[.val (.long q0), .second, .val (.long q1), .second, .val (.long q2), .second, .val (.int p3), .val (.long q4), .second, .val (.long q5), .second, .val (.ref b101), .val (.long v2), .second, .val (.long v3), .second, .val (.long (0 : Int64)), .second, .val (.long v4), .second, .val (.long v3), .second] [(.int v12)])) t → Steps p.tables e below (s₁.setTop (mkF m 0 #[.val (.long q0), .second, .val (.long q1), .second, .val (.long q2), .second, .val (.int p3), .val (.long q4), .second, .val (.long q5), .second, .unset, .unset, .unset, .unset, .unset, .unset, .unset, .unset, .unset, .unset, .unset] [])) t := by
    intro t kt
    show Steps p.tables e below (s₁.setTop (mkF m 0 #[.val (.long q0), .second, .val (.long q1), .second, .val (.long q2), .second, .val (.int p3), .val (.long q4), .second, .val (.long q5), .second, .unset, .unset, .unset, .unset, .unset, .unset, .unset, .unset, .unset, .unset, .unset] [])) _
    refine st101 _ ?_
    show Steps p.tables e below (T101.setTop (mkF m 3 #[.val (.long q0), .second, .val (.long q1), .second, .val (.long q2), .second, .val (.int p3), .val (.long q4), .second, .val (.long q5), .second, .unset, .unset, .unset, .unset, .unset, .unset, .unset, .unset, .unset, .unset, .unset] [(.ref b101)])) _
    refine XS.dup X101.here hx rfl (hb hby at_3) rfl rfl ?_
    show Steps p.tables e below (T101.setTop (mkF m 4 #[.val (.long q0), .second, .val (.long q1), .second, .val (.long q2), .second, .val (.int p3), .val (.long q4), .second, .val (.long q5), .second, .unset, .unset, .unset, .unset, .unset, .unset, .unset, .unset, .unset, .unset, .unset] [(.ref b101), (.ref b101)])) _
    refine XS.lload X101.here hx rfl (hb hby at_4) rfl ?_
    show Steps p.tables e below (T101.setTop (mkF m 6 #[.val (.long q0), .second, .val (.long q1), .second, .val (.long q2), .second, .val (.int p3), .val (.long q4), .second, .val (.long q5), .second, .unset, .unset, .unset, .unset, .unset, .unset, .unset, .unset, .unset, .unset, .unset] [(.long q4), (.ref b101), (.ref b101)])) _
    refine XS.iconst X101.here hx rfl (hb hby at_6) ?_
    show Steps p.tables e below (T101.setTop (mkF m 7 #[.val (.long q0), .second, .val (.long q1), .second, .val (.long q2), .second, .val (.int p3), .val (.long q4), .second, .val (.long q5), .second, .unset, .unset, .unset, .unset, .unset, .unset, .unset, .unset, .unset, .unset, .unset] [(.int (0 : Int32)), (.long q4), (.ref b101), (.ref b101)])) _
    refine st112 _ ?_
    show Steps p.tables e below (T112.setTop (mkF m 9 #[.val (.long q0), .second, .val (.long q1), .second, .val (.long q2), .second, .val (.int p3), .val (.long q4), .second, .val (.long q5), .second, .unset, .unset, .unset, .unset, .unset, .unset, .unset, .unset, .unset, .unset, .unset] [(.ref b112), (.long q4), (.ref b101), (.ref b101)])) _
    refine XS.iconst X112.here hx rfl (hb hby at_9) ?_
    show Steps p.tables e below (T112.setTop (mkF m 10 #[.val (.long q0), .second, .val (.long q1), .second, .val (.long q2), .second, .val (.int p3), .val (.long q4), .second, .val (.long q5), .second, .unset, .unset, .unset, .unset, .unset, .unset, .unset, .unset, .unset, .unset, .unset] [(.int (1 : Int32)), (.ref b112), (.long q4), (.ref b101), (.ref b101)])) _
    refine XS.aconstNull X112.here hx rfl (hb hby at_10) ?_
    show Steps p.tables e below (T112.setTop (mkF m 11 #[.val (.long q0), .second, .val (.long q1), .second, .val (.long q2), .second, .val (.int p3), .val (.long q4), .second, .val (.long q5), .second, .unset, .unset, .unset, .unset, .unset, .unset, .unset, .unset, .unset, .unset, .unset] [.null, (.int (1 : Int32)), (.ref b112), (.long q4), (.ref b101), (.ref b101)])) _
    refine XS.lload X112.here hx rfl (hb hby at_11) rfl ?_
    show Steps p.tables e below (T112.setTop (mkF m 13 #[.val (.long q0), .second, .val (.long q1), .second, .val (.long q2), .second, .val (.int p3), .val (.long q4), .second, .val (.long q5), .second, .unset, .unset, .unset, .unset, .unset, .unset, .unset, .unset, .unset, .unset, .unset] [(.long q5), .null, (.int (1 : Int32)), (.ref b112), (.long q4), (.ref b101), (.ref b101)])) _
    refine st125.trans ?_
    show Steps p.tables e below (T125.setTop (mkF m 16 #[.val (.long q0), .second, .val (.long q1), .second, .val (.long q2), .second, .val (.int p3), .val (.long q4), .second, .val (.long q5), .second, .unset, .unset, .unset, .unset, .unset, .unset, .unset, .unset, .unset, .unset, .unset] [(.ref b101)])) _
    refine XS.astore X125.here hx rfl (hb hby at_16) rfl rfl (l' := #[.val (.long q0), .second, .val (.long q1), .second, .val (.long q2), .second, .val (.int p3), .val (.long q4), .second, .val (.long q5), .second, .val (.ref b101), .unset, .unset, .unset, .unset, .unset, .unset, .unset, .unset, .unset, .unset]) rfl ?_
    show Steps p.tables e below (T125.setTop (mkF m 18 #[.val (.long q0), .second, .val (.long q1), .second, .val (.long q2), .second, .val (.int p3), .val (.long q4), .second, .val (.long q5), .second, .val (.ref b101), .unset, .unset, .unset, .unset, .unset, .unset, .unset, .unset, .unset, .unset] [])) _
    refine XS.aload X125.here hx rfl (hb hby at_18) rfl rfl ?_
    show Steps p.tables e below (T125.setTop (mkF m 20 #[.val (.long q0), .second, .val (.long q1), .second, .val (.long q2), .second, .val (.int p3), .val (.long q4), .second, .val (.long q5), .second, .val (.ref b101), .unset, .unset, .unset, .unset, .unset, .unset, .unset, .unset, .unset, .unset] [(.ref b101)])) _
    refine XS.iload X125.here hx rfl (hb hby at_20) rfl ?_
    show Steps p.tables e below (T125.setTop (mkF m 22 #[.val (.long q0), .second, .val (.long q1), .second, .val (.long q2), .second, .val (.int p3), .val (.long q4), .second, .val (.long q5), .second, .val (.ref b101), .unset, .unset, .unset, .unset, .unset, .unset, .unset, .unset, .unset, .unset] [(.int p3), (.ref b101)])) _
    refine st130.trans ?_
    show Steps p.tables e below (T130.setTop (mkF m 25 #[.val (.long q0), .second, .val (.long q1), .second, .val (.long q2), .second, .val (.int p3), .val (.long q4), .second, .val (.long q5), .second, .val (.ref b101), .unset, .unset, .unset, .unset, .unset, .unset, .unset, .unset, .unset, .unset] [])) _
    refine XS.aload X130.here hx rfl (hb hby at_25) rfl rfl ?_
    show Steps p.tables e below (T130.setTop (mkF m 27 #[.val (.long q0), .second, .val (.long q1), .second, .val (.long q2), .second, .val (.int p3), .val (.long q4), .second, .val (.long q5), .second, .val (.ref b101), .unset, .unset, .unset, .unset, .unset, .unset, .unset, .unset, .unset, .unset] [(.ref b101)])) _
    refine XS.lloadN X130.here hx rfl (hb hby at_27) rfl ?_
    show Steps p.tables e below (T130.setTop (mkF m 28 #[.val (.long q0), .second, .val (.long q1), .second, .val (.long q2), .second, .val (.int p3), .val (.long q4), .second, .val (.long q5), .second, .val (.ref b101), .unset, .unset, .unset, .unset, .unset, .unset, .unset, .unset, .unset, .unset] [(.long q0), (.ref b101)])) _
    refine st135.trans ?_
    show Steps p.tables e below (T135.setTop (mkF m 31 #[.val (.long q0), .second, .val (.long q1), .second, .val (.long q2), .second, .val (.int p3), .val (.long q4), .second, .val (.long q5), .second, .val (.ref b101), .unset, .unset, .unset, .unset, .unset, .unset, .unset, .unset, .unset, .unset] [])) _
    refine XS.aload X135.here hx rfl (hb hby at_31) rfl rfl ?_
    show Steps p.tables e below (T135.setTop (mkF m 33 #[.val (.long q0), .second, .val (.long q1), .second, .val (.long q2), .second, .val (.int p3), .val (.long q4), .second, .val (.long q5), .second, .val (.ref b101), .unset, .unset, .unset, .unset, .unset, .unset, .unset, .unset, .unset, .unset] [(.ref b101)])) _
    refine XS.lloadN X135.here hx rfl (hb hby at_33) rfl ?_
    show Steps p.tables e below (T135.setTop (mkF m 34 #[.val (.long q0), .second, .val (.long q1), .second, .val (.long q2), .second, .val (.int p3), .val (.long q4), .second, .val (.long q5), .second, .val (.ref b101), .unset, .unset, .unset, .unset, .unset, .unset, .unset, .unset, .unset, .unset] [(.long q1), (.ref b101)])) _
    refine st140.trans ?_
    show Steps p.tables e below (T140.setTop (mkF m 37 #[.val (.long q0), .second, .val (.long q1), .second, .val (.long q2), .second, .val (.int p3), .val (.long q4), .second, .val (.long q5), .second, .val (.ref b101), .unset, .unset, .unset, .unset, .unset, .unset, .unset, .unset, .unset, .unset] [])) _
    refine XS.aload X140.here hx rfl (hb hby at_37) rfl rfl ?_
    show Steps p.tables e below (T140.setTop (mkF m 39 #[.val (.long q0), .second, .val (.long q1), .second, .val (.long q2), .second, .val (.int p3), .val (.long q4), .second, .val (.long q5), .second, .val (.ref b101), .unset, .unset, .unset, .unset, .unset, .unset, .unset, .unset, .unset, .unset] [(.ref b101)])) _
    refine st145.trans ?_
    show Steps p.tables e below (T145.setTop (mkF m 42 #[.val (.long q0), .second, .val (.long q1), .second, .val (.long q2), .second, .val (.int p3), .val (.long q4), .second, .val (.long q5), .second, .val (.ref b101), .unset, .unset, .unset, .unset, .unset, .unset, .unset, .unset, .unset, .unset] [(.long (((0 : Int64) + q0) + q1))])) _
    rw [← hv2]
    show Steps p.tables e below (T145.setTop (mkF m 42 #[.val (.long q0), .second, .val (.long q1), .second, .val (.long q2), .second, .val (.int p3), .val (.long q4), .second, .val (.long q5), .second, .val (.ref b101), .unset, .unset, .unset, .unset, .unset, .unset, .unset, .unset, .unset, .unset] [(.long v2)])) _
    refine XS.lstore X145.here hx rfl (hb hby at_42) rfl (l' := #[.val (.long q0), .second, .val (.long q1), .second, .val (.long q2), .second, .val (.int p3), .val (.long q4), .second, .val (.long q5), .second, .val (.ref b101), .val (.long v2), .second, .unset, .unset, .unset, .unset, .unset, .unset, .unset, .unset]) rfl ?_
    show Steps p.tables e below (T145.setTop (mkF m 44 #[.val (.long q0), .second, .val (.long q1), .second, .val (.long q2), .second, .val (.int p3), .val (.long q4), .second, .val (.long q5), .second, .val (.ref b101), .val (.long v2), .second, .unset, .unset, .unset, .unset, .unset, .unset, .unset, .unset] [])) _
    refine XS.aload X145.here hx rfl (hb hby at_44) rfl rfl ?_
    show Steps p.tables e below (T145.setTop (mkF m 46 #[.val (.long q0), .second, .val (.long q1), .second, .val (.long q2), .second, .val (.int p3), .val (.long q4), .second, .val (.long q5), .second, .val (.ref b101), .val (.long v2), .second, .unset, .unset, .unset, .unset, .unset, .unset, .unset, .unset] [(.ref b101)])) _
    refine st150.trans ?_
    show Steps p.tables e below (T150.setTop (mkF m 49 #[.val (.long q0), .second, .val (.long q1), .second, .val (.long q2), .second, .val (.int p3), .val (.long q4), .second, .val (.long q5), .second, .val (.ref b101), .val (.long v2), .second, .unset, .unset, .unset, .unset, .unset, .unset, .unset, .unset] [(.long ((p3.toInt64) + (0 : Int64)))])) _
    rw [← hv3]
    show Steps p.tables e below (T150.setTop (mkF m 49 #[.val (.long q0), .second, .val (.long q1), .second, .val (.long q2), .second, .val (.int p3), .val (.long q4), .second, .val (.long q5), .second, .val (.ref b101), .val (.long v2), .second, .unset, .unset, .unset, .unset, .unset, .unset, .unset, .unset] [(.long v3)])) _
    refine XS.lstore X150.here hx rfl (hb hby at_49) rfl (l' := #[.val (.long q0), .second, .val (.long q1), .second, .val (.long q2), .second, .val (.int p3), .val (.long q4), .second, .val (.long q5), .second, .val (.ref b101), .val (.long v2), .second, .val (.long v3), .second, .unset, .unset, .unset, .unset, .unset, .unset]) rfl ?_
    show Steps p.tables e below (T150.setTop (mkF m 51 #[.val (.long q0), .second, .val (.long q1), .second, .val (.long q2), .second, .val (.int p3), .val (.long q4), .second, .val (.long q5), .second, .val (.ref b101), .val (.long v2), .second, .val (.long v3), .second, .unset, .unset, .unset, .unset, .unset, .unset] [])) _
    refine XS.aload X150.here hx rfl (hb hby at_51) rfl rfl ?_
    show Steps p.tables e below (T150.setTop (mkF m 53 #[.val (.long q0), .second, .val (.long q1), .second, .val (.long q2), .second, .val (.int p3), .val (.long q4), .second, .val (.long q5), .second, .val (.ref b101), .val (.long v2), .second, .val (.long v3), .second, .unset, .unset, .unset, .unset, .unset, .unset] [(.ref b101)])) _
    refine st151.trans ?_
    show Steps p.tables e below (T151.setTop (mkF m 56 #[.val (.long q0), .second, .val (.long q1), .second, .val (.long q2), .second, .val (.int p3), .val (.long q4), .second, .val (.long q5), .second, .val (.ref b101), .val (.long v2), .second, .val (.long v3), .second, .unset, .unset, .unset, .unset, .unset, .unset] [(.long (0 : Int64))])) _
    refine XS.lstore X151.here hx rfl (hb hby at_56) rfl (l' := #[.val (.long q0), .second, .val (.long q1), .second, .val (.long q2), .second, .val (.int p3), .val (.long q4), .second, .val (.long q5), .second, .val (.ref b101), .val (.long v2), .second, .val (.long v3), .second, .val (.long (0 : Int64)), .second, .unset, .unset, .unset, .unset]) rfl ?_
    show Steps p.tables e below (T151.setTop (mkF m 58 #[.val (.long q0), .second, .val (.long q1), .second, .val (.long q2), .second, .val (.int p3), .val (.long q4), .second, .val (.long q5), .second, .val (.ref b101), .val (.long v2), .second, .val (.long v3), .second, .val (.long (0 : Int64)), .second, .unset, .unset, .unset, .unset] [])) _
    refine XS.aload X151.here hx rfl (hb hby at_58) rfl rfl ?_
    show Steps p.tables e below (T151.setTop (mkF m 60 #[.val (.long q0), .second, .val (.long q1), .second, .val (.long q2), .second, .val (.int p3), .val (.long q4), .second, .val (.long q5), .second, .val (.ref b101), .val (.long v2), .second, .val (.long v3), .second, .val (.long (0 : Int64)), .second, .unset, .unset, .unset, .unset] [(.ref b101)])) _
    refine XS.lload X151.here hx rfl (hb hby at_60) rfl ?_
    show Steps p.tables e below (T151.setTop (mkF m 62 #[.val (.long q0), .second, .val (.long q1), .second, .val (.long q2), .second, .val (.int p3), .val (.long q4), .second, .val (.long q5), .second, .val (.ref b101), .val (.long v2), .second, .val (.long v3), .second, .val (.long (0 : Int64)), .second, .unset, .unset, .unset, .unset] [(.long q2), (.ref b101)])) _
    refine st156.trans ?_
    show Steps p.tables e below (T156.setTop (mkF m 65 #[.val (.long q0), .second, .val (.long q1), .second, .val (.long q2), .second, .val (.int p3), .val (.long q4), .second, .val (.long q5), .second, .val (.ref b101), .val (.long v2), .second, .val (.long v3), .second, .val (.long (0 : Int64)), .second, .unset, .unset, .unset, .unset] [])) _
    refine XS.aload X156.here hx rfl (hb hby at_65) rfl rfl ?_
    show Steps p.tables e below (T156.setTop (mkF m 67 #[.val (.long q0), .second, .val (.long q1), .second, .val (.long q2), .second, .val (.int p3), .val (.long q4), .second, .val (.long q5), .second, .val (.ref b101), .val (.long v2), .second, .val (.long v3), .second, .val (.long (0 : Int64)), .second, .unset, .unset, .unset, .unset] [(.ref b101)])) _
    refine st161.trans ?_
    show Steps p.tables e below (T161.setTop (mkF m 70 #[.val (.long q0), .second, .val (.long q1), .second, .val (.long q2), .second, .val (.int p3), .val (.long q4), .second, .val (.long q5), .second, .val (.ref b101), .val (.long v2), .second, .val (.long v3), .second, .val (.long (0 : Int64)), .second, .unset, .unset, .unset, .unset] [(.long ((0 : Int64) + q2))])) _
    rw [← hv4]
    show Steps p.tables e below (T161.setTop (mkF m 70 #[.val (.long q0), .second, .val (.long q1), .second, .val (.long q2), .second, .val (.int p3), .val (.long q4), .second, .val (.long q5), .second, .val (.ref b101), .val (.long v2), .second, .val (.long v3), .second, .val (.long (0 : Int64)), .second, .unset, .unset, .unset, .unset] [(.long v4)])) _
    refine XS.lstore X161.here hx rfl (hb hby at_70) rfl (l' := #[.val (.long q0), .second, .val (.long q1), .second, .val (.long q2), .second, .val (.int p3), .val (.long q4), .second, .val (.long q5), .second, .val (.ref b101), .val (.long v2), .second, .val (.long v3), .second, .val (.long (0 : Int64)), .second, .val (.long v4), .second, .unset, .unset]) rfl ?_
    show Steps p.tables e below (T161.setTop (mkF m 72 #[.val (.long q0), .second, .val (.long q1), .second, .val (.long q2), .second, .val (.int p3), .val (.long q4), .second, .val (.long q5), .second, .val (.ref b101), .val (.long v2), .second, .val (.long v3), .second, .val (.long (0 : Int64)), .second, .val (.long v4), .second, .unset, .unset] [])) _
    refine XS.aload X161.here hx rfl (hb hby at_72) rfl rfl ?_
    show Steps p.tables e below (T161.setTop (mkF m 74 #[.val (.long q0), .second, .val (.long q1), .second, .val (.long q2), .second, .val (.int p3), .val (.long q4), .second, .val (.long q5), .second, .val (.ref b101), .val (.long v2), .second, .val (.long v3), .second, .val (.long (0 : Int64)), .second, .val (.long v4), .second, .unset, .unset] [(.ref b101)])) _
    refine st166.trans ?_
    show Steps p.tables e below (T166.setTop (mkF m 77 #[.val (.long q0), .second, .val (.long q1), .second, .val (.long q2), .second, .val (.int p3), .val (.long q4), .second, .val (.long q5), .second, .val (.ref b101), .val (.long v2), .second, .val (.long v3), .second, .val (.long (0 : Int64)), .second, .val (.long v4), .second, .unset, .unset] [(.long ((p3.toInt64) + (0 : Int64)))])) _
    rw [← hv3]
    show Steps p.tables e below (T166.setTop (mkF m 77 #[.val (.long q0), .second, .val (.long q1), .second, .val (.long q2), .second, .val (.int p3), .val (.long q4), .second, .val (.long q5), .second, .val (.ref b101), .val (.long v2), .second, .val (.long v3), .second, .val (.long (0 : Int64)), .second, .val (.long v4), .second, .unset, .unset] [(.long v3)])) _
    refine XS.lstore X166.here hx rfl (hb hby at_77) rfl (l' := #[.val (.long q0), .second, .val (.long q1), .second, .val (.long q2), .second, .val (.int p3), .val (.long q4), .second, .val (.long q5), .second, .val (.ref b101), .val (.long v2), .second, .val (.long v3), .second, .val (.long (0 : Int64)), .second, .val (.long v4), .second, .val (.long v3), .second]) rfl ?_
    show Steps p.tables e below (T166.setTop (mkF m 79 #[.val (.long q0), .second, .val (.long q1), .second, .val (.long q2), .second, .val (.int p3), .val (.long q4), .second, .val (.long q5), .second, .val (.ref b101), .val (.long v2), .second, .val (.long v3), .second, .val (.long (0 : Int64)), .second, .val (.long v4), .second, .val (.long v3), .second] [])) _
    refine XS.lload X166.here hx rfl (hb hby at_79) rfl ?_
    show Steps p.tables e below (T166.setTop (mkF m 81 #[.val (.long q0), .second, .val (.long q1), .second, .val (.long q2), .second, .val (.int p3), .val (.long q4), .second, .val (.long q5), .second, .val (.ref b101), .val (.long v2), .second, .val (.long v3), .second, .val (.long (0 : Int64)), .second, .val (.long v4), .second, .val (.long v3), .second] [(.long v2)])) _
    refine XS.lloadN X166.here hx rfl (hb hby at_81) rfl ?_
    show Steps p.tables e below (T166.setTop (mkF m 82 #[.val (.long q0), .second, .val (.long q1), .second, .val (.long q2), .second, .val (.int p3), .val (.long q4), .second, .val (.long q5), .second, .val (.ref b101), .val (.long v2), .second, .val (.long v3), .second, .val (.long (0 : Int64)), .second, .val (.long v4), .second, .val (.long v3), .second] [(.long q0), (.long v2)])) _
    refine XS.lloadN X166.here hx rfl (hb hby at_82) rfl ?_
    show Steps p.tables e below (T166.setTop (mkF m 83 #[.val (.long q0), .second, .val (.long q1), .second, .val (.long q2), .second, .val (.int p3), .val (.long q4), .second, .val (.long q5), .second, .val (.ref b101), .val (.long v2), .second, .val (.long v3), .second, .val (.long (0 : Int64)), .second, .val (.long v4), .second, .val (.long v3), .second] [(.long q1), (.long q0), (.long v2)])) _
    refine XS.ladd X166.here hx rfl (hb hby at_83) rfl ?_
    show Steps p.tables e below (T166.setTop (mkF m 84 #[.val (.long q0), .second, .val (.long q1), .second, .val (.long q2), .second, .val (.int p3), .val (.long q4), .second, .val (.long q5), .second, .val (.ref b101), .val (.long v2), .second, .val (.long v3), .second, .val (.long (0 : Int64)), .second, .val (.long v4), .second, .val (.long v3), .second] [(.long (q0 + q1)), (.long v2)])) _
    refine XS.lcmp X166.here hx rfl (hb hby at_84) rfl ?_
    show Steps p.tables e below (T166.setTop (mkF m 85 #[.val (.long q0), .second, .val (.long q1), .second, .val (.long q2), .second, .val (.int p3), .val (.long q4), .second, .val (.long q5), .second, .val (.ref b101), .val (.long v2), .second, .val (.long v3), .second, .val (.long (0 : Int64)), .second, .val (.long v4), .second, .val (.long v3), .second] [(.int (lcmpW v2 (q0 + q1)))])) _
    refine st178 _ ?_
    exact kt
  refine own_go hgo179 ?_
  have hz180 : v12 = 1 := own_leaf0 (q0 := q0) (q1 := q1) (q2 := q2) (p3 := p3) (q4 := q4) (q5 := q5) hv1 hv2 hv3 hv4 hv9 hv10 hv11 hv12
  exact own_retZ X178 hx Bd.returns Bd.notSynchronized (hb hby at_126) (by decide) (by decide) (Or.inr hz180) ⟨by rw [hz180], N178⟩
set_option maxRecDepth 65536 in
set_option maxHeartbeats 40000000 in
theorem comes_1 {Post : Tables → Env → Array Value → State → Outcome → State → Prop} (hpost : ∀ tb e args s v u, (limb_1_1.after args s (.returned v) u = true ∧ limb_1_2.after args s (.returned v) u = true ∧ True) → FrameEnd s (.returned v) u (Jvm.fieldLocs frame_1_writes args s ++ Jvm.arrayLocs frame_1_arrays args s ++ Jvm.staticLocs frame_1_statics s) 16 128 → Post tb e args s (.returned v) u) :
    ArmFor flags0 classFile x code maxLocals ret World_1 tables_1 room_1 Calls_1 rest_1 Pre_1 Post := by
  intro l hfl _ _ p e ha hc hk s m args below hf hA hF happ hP
  obtain ⟨hcalls, hrest, hpre⟩ := hP
  obtain ⟨-, -, -, hnamed, -, -, -, hat⟩ := (Spec.applies_iff hf).mp happ
  obtain ⟨hg, hn⟩ := and_e (Cond.before_iff.mp (show (Jvm.Cond.and given_1 narrow_1).before args s = true from hpre))
  obtain ⟨gg1, gg2⟩ := and_e hg
  obtain ⟨gg3, gg4⟩ := and_e gg2
  obtain ⟨gg5, gg6⟩ := and_e gg4
  obtain ⟨gg7, gg8⟩ := and_e gg6
  obtain ⟨gg9, gg10⟩ := and_e gg8
  obtain ⟨gg11, gg12⟩ := and_e gg10
  obtain ⟨w0, w1, w2, w3, w4, w5, rfl⟩ : ∃ w0 w1 w2 w3 w4 w5 : Value, args = #[w0, w1, w2, w3, w4, w5] := by
    have hs : args.size = 6 := by simpa [Cond.value, given_1] using gg1
    obtain ⟨L⟩ := args
    match L, hs with
    | [w0, w1, w2, w3, w4, w5], _ => exact ⟨w0, w1, w2, w3, w4, w5, rfl⟩
  have hw := fun d (hd : d ∈ tables_1) => atoms_spec (ws := Jvm.Cond.code x code maxLocals ret :: tables_1) hat d (List.mem_cons_of_mem _ hd)
  have hfit : Fit s := fun {y c} hc i hi => by
    obtain ⟨ha, rfl⟩ := Array.getElem?_eq_some_iff.mp hc
    have q := List.all_eq_true.mp ((Array.all_eq_true_iff_forall_mem.mp hF) _ (Array.getElem_mem ha)) i (List.mem_range.mpr hi)
    simpa [Array.getElem?_eq_getElem hi] using q
  obtain ⟨i0, ei0⟩ := isL_v gg3
  obtain rfl : w0 = (.long i0) := Option.some.inj ei0
  obtain ⟨i1, ei1⟩ := isL_v gg5
  obtain rfl : w1 = (.long i1) := Option.some.inj ei1
  obtain ⟨i2, ei2⟩ := isL_v gg7
  obtain rfl : w2 = (.long i2) := Option.some.inj ei2
  obtain ⟨i3, ei3⟩ := is_v gg9
  obtain rfl : w3 = (.int i3) := Option.some.inj ei3
  obtain ⟨i4, ei4⟩ := isL_v gg11
  obtain rfl : w4 = (.long i4) := Option.some.inj ei4
  obtain ⟨i5, ei5⟩ := isL_v gg12
  obtain rfl : w5 = (.long i5) := Option.some.inj ei5
  obtain ⟨n, o, h1, h2, h3, _, L, rfl, ⟨rfl, N⟩, hq⟩ := rm0 l s _ hw tables_1 i0 i1 i2 i3 i4 i5 s.heap s.heap.size (Nat.le_refl _)  p e ha hc hk s m _ below hf ((Spec.applies_iff_loose hf).mp happ).1 ⟨rfl, State.Warmed39.refl s, rfl⟩ trivial
  refine ⟨n, _, h1, h2, h3, hpost _ _ _ _ _ _ ⟨Cond.after_iff.mpr rfl, Cond.after_iff.mpr (eq_i res_at (Term.int_eval (1)) rfl), trivial⟩ ⟨hq.1, hq.2.1, (hq.2.2.sift fun y hy => Or.inr (N y hy)).mono (by decide) (by decide)⟩⟩
theorem main_1_1 : Claimed_1_1 := comes_1 fun _ _ _ _ _ _ h hF => ⟨h.1, hF⟩
theorem main_1_2 : Claimed_1_2 := comes_1 fun _ _ _ _ _ _ h hF => ⟨h.2.1, hF⟩
end Jvm.Pilot.@@N@@
namespace Jvm.Pilot.@@N@@
open Jvm Jvm.ClassFile Sem Op Lib Jvm.Free Jvm.Stand Jvm.Pilot.@@N@@.Jvm.D
/-! MADE BY PROGRAM (witnessworld.py) out of the Statement's table words and the real class files: 9 classes; the members and pool entries that the words name. The judged class is class 1, her method 1. -/
namespace start1
open Jvm.ClassFile
def u (s : String) : CpInfo := .utf8 (stringToUtf16 s)
/-- a pool by its gaps: so many unusable entries, then the entry; so many at the end -/
def gap : Nat → List CpInfo → List CpInfo
  | 0, r => r
  | n + 1, r => .unusable :: gap n r
def poolList (es : List (Nat × CpInfo)) (last : Nat) : List CpInfo := es.foldr (fun e r => gap e.1 (e.2 :: r)) (gap last [])
def pool (es : List (Nat × CpInfo)) (last : Nat) : Array CpInfo := ⟨poolList es last⟩
def fileOf (pool : Array CpInfo) (this : Nat) (attrs : Array Attribute := #[]) (ms : Array MethodInfo := #[]) (fl : Nat := 33) (sup : Nat := 0) (ifs : Array Nat := #[]) (fds : Array FieldInfo := #[]) : ClassFile where
  minorVersion := 0
  majorVersion := 65
  constantPool := pool
  accessFlags := fl
  thisClass := this
  superClass := sup
  interfaces := ifs
  fields := fds
  methods := ms
  attributes := attrs
def plain (name : String) (sup : Option ClassId) : Class where
  name := name
  kind := .ordinary
  loader := none
  accessFlags := 33
  super := sup
  interfaces := #[]
  cf := none
  fields := #[]
  methods := #[]
  instanceTypes := #[]
  staticTypes := #[]
  resolved := #[]
  callSites := []
  init := .initialized
  statics := none
  mirror := none

def pool0 : Array CpInfo := pool [(5, u "<init>"), (0, u "()V"), (1, .class_ 10), (1, u "java/lang/Object")] 113

def k0c0 : Code := { maxStack := 0, maxLocals := 1, code := object_method_1_code, exceptionTable := #[], attributes := #[] }
def k0m0 : Method := { name := "<init>", desc := "()V", sig := { parameters := [], returnType := none }, accessFlags := 1, code := some k0c0 }
/-- java/lang/Object -/
def k0 : Class := { plain "java/lang/Object" none with
  accessFlags := 33
  interfaces := #[]
  cf := some (fileOf pool0 8 #[] #[{ accessFlags := 1, nameIndex := 5, descriptorIndex := 6, attributes := #[] }] 33 0 #[] #[])
  fields := #[]
  methods := #[k0m0]
  instanceTypes := #[]
  staticTypes := #[]
  resolved := Array.replicate 124 none
  statics := none }

def pool1 : Array CpInfo := pool [(2, .class_ 4), (1, u "java/lang/Object"), (0, u "<init>"), (0, u "()V"), (0, .class_ 8), (0, u "com/example/millrace/millrace/queue/Message"), (0, .methodref 7 10), (0, .nameAndType 5 11), (0, u "(J[BILjava/lang/String;J)V"), (0, .methodref 7 13), (0, .nameAndType 14 15), (0, u "setSendBytes"), (0, u "(I)V"), (0, .methodref 7 17), (0, .nameAndType 18 19), (0, u "addJournalBytes"), (0, u "(J)V"), (0, .methodref 7 21), (0, .nameAndType 22 23), (0, u "forgetLaterBytes"), (0, u "()J"), (0, .methodref 7 25), (0, .nameAndType 26 23), (0, u "journalBytes"), (0, .class_ 28), (0, u "com/example/millrace/millrace/queue/MessageForgetLaterBytesPinLaw"), (2, u "law"), (0, u "(JJJIJJ)Z")] 3

def k1m0 : Method := { name := "<init>", desc := "()V", sig := { parameters := [], returnType := none }, accessFlags := 1, code := none }
def k1c1 : Code := { maxStack := 9, maxLocals := 22, code := code, exceptionTable := #[], attributes := #[] }
def k1m1 : Method := { name := "law", desc := "(JJJIJJ)Z", sig := { parameters := [.long, .long, .long, .int, .long, .long], returnType := some .boolean }, accessFlags := 9, code := some k1c1 }
/-- com/example/millrace/millrace/queue/MessageForgetLaterBytesPinLaw -/
def k1 : Class := { plain "com/example/millrace/millrace/queue/MessageForgetLaterBytesPinLaw" (some 0) with
  accessFlags := 49
  interfaces := #[]
  cf := some (fileOf pool1 27 #[] #[{ accessFlags := 1, nameIndex := 5, descriptorIndex := 6, attributes := #[] }, { accessFlags := 9, nameIndex := 31, descriptorIndex := 32, attributes := #[] }] 49 2 #[] #[])
  fields := #[]
  methods := #[k1m0, k1m1]
  instanceTypes := #[]
  staticTypes := #[]
  resolved := Array.replicate 36 none
  statics := none }

def pool2 : Array CpInfo := pool [(1, .methodref 2 3), (0, .class_ 4), (0, .nameAndType 5 6), (0, u "java/lang/Object"), (0, u "<init>"), (0, u "()V"), (0, .fieldref 8 9), (0, .class_ 10), (0, .nameAndType 11 12), (0, u "com/example/millrace/millrace/queue/Message"), (0, u "id"), (0, u "J"), (0, .fieldref 8 14), (0, .nameAndType 15 16), (0, u "body"), (0, u "[B"), (0, .fieldref 8 18), (0, .nameAndType 19 20), (0, u "priority"), (0, u "I"), (0, .fieldref 8 22), (0, .nameAndType 23 24), (0, u "group"), (0, u "Ljava/lang/String;"), (0, .fieldref 8 26), (0, .nameAndType 27 12), (0, u "due"), (0, .fieldref 8 29), (0, .nameAndType 30 12), (0, u "readySince"), (2, u "attempts"), (2, u "receipt"), (2, u "until"), (2, u "reason"), (2, u "deadAtMillis"), (0, .fieldref 8 47), (0, .nameAndType 48 20), (0, u "sendBytes"), (0, .fieldref 8 50), (0, .nameAndType 51 12), (0, u "laterBytes"), (0, u "(J[BILjava/lang/String;J)V"), (2, u "()J"), (8, u "(J)V"), (4, u "journalBytes"), (0, u "setSendBytes"), (0, u "(I)V"), (0, u "addJournalBytes"), (0, u "forgetLaterBytes")] 2

def k2c0 : Code := { maxStack := 3, maxLocals := 8, code := prog_20_method_1_code, exceptionTable := #[], attributes := #[] }
def k2m0 : Method := { name := "<init>", desc := "(J[BILjava/lang/String;J)V", sig := { parameters := [.long, (.array .byte), .int, (.object "java/lang/String"), .long], returnType := none }, accessFlags := 0, code := some k2c0 }
def k2c1 : Code := { maxStack := 4, maxLocals := 1, code := prog_20_method_20_code, exceptionTable := #[], attributes := #[] }
def k2m1 : Method := { name := "journalBytes", desc := "()J", sig := { parameters := [], returnType := some .long }, accessFlags := 0, code := some k2c1 }
def k2c2 : Code := { maxStack := 2, maxLocals := 2, code := prog_20_method_21_code, exceptionTable := #[], attributes := #[] }
def k2m2 : Method := { name := "setSendBytes", desc := "(I)V", sig := { parameters := [.int], returnType := none }, accessFlags := 0, code := some k2c2 }
def k2c3 : Code := { maxStack := 5, maxLocals := 3, code := prog_20_method_22_code, exceptionTable := #[], attributes := #[] }
def k2m3 : Method := { name := "addJournalBytes", desc := "(J)V", sig := { parameters := [.long], returnType := none }, accessFlags := 0, code := some k2c3 }
def k2c4 : Code := { maxStack := 3, maxLocals := 3, code := prog_20_method_23_code, exceptionTable := #[], attributes := #[] }
def k2m4 : Method := { name := "forgetLaterBytes", desc := "()J", sig := { parameters := [], returnType := some .long }, accessFlags := 0, code := some k2c4 }
/-- com/example/millrace/millrace/queue/Message -/
def k2 : Class := { plain "com/example/millrace/millrace/queue/Message" (some 0) with
  accessFlags := 48
  interfaces := #[]
  cf := some (fileOf pool2 8 #[] #[{ accessFlags := 0, nameIndex := 5, descriptorIndex := 52, attributes := #[] }, { accessFlags := 0, nameIndex := 69, descriptorIndex := 55, attributes := #[] }, { accessFlags := 0, nameIndex := 70, descriptorIndex := 71, attributes := #[] }, { accessFlags := 0, nameIndex := 72, descriptorIndex := 64, attributes := #[] }, { accessFlags := 0, nameIndex := 73, descriptorIndex := 55, attributes := #[] }] 48 2 #[] #[{ accessFlags := 18, nameIndex := 11, descriptorIndex := 12, attributes := #[] }, { accessFlags := 18, nameIndex := 15, descriptorIndex := 16, attributes := #[] }, { accessFlags := 18, nameIndex := 19, descriptorIndex := 20, attributes := #[] }, { accessFlags := 18, nameIndex := 23, descriptorIndex := 24, attributes := #[] }, { accessFlags := 2, nameIndex := 33, descriptorIndex := 20, attributes := #[] }, { accessFlags := 2, nameIndex := 36, descriptorIndex := 24, attributes := #[] }, { accessFlags := 2, nameIndex := 27, descriptorIndex := 12, attributes := #[] }, { accessFlags := 2, nameIndex := 30, descriptorIndex := 12, attributes := #[] }, { accessFlags := 2, nameIndex := 39, descriptorIndex := 12, attributes := #[] }, { accessFlags := 2, nameIndex := 42, descriptorIndex := 24, attributes := #[] }, { accessFlags := 2, nameIndex := 45, descriptorIndex := 12, attributes := #[] }, { accessFlags := 2, nameIndex := 48, descriptorIndex := 20, attributes := #[] }, { accessFlags := 2, nameIndex := 51, descriptorIndex := 12, attributes := #[] }])
  fields := #[{ name := "id", type := .long, accessFlags := 18, slot := 0, constantValue := 0 }, { name := "body", type := (.array .byte), accessFlags := 18, slot := 1, constantValue := 0 }, { name := "priority", type := .int, accessFlags := 18, slot := 2, constantValue := 0 }, { name := "group", type := (.object "java/lang/String"), accessFlags := 18, slot := 3, constantValue := 0 }, { name := "attempts", type := .int, accessFlags := 2, slot := 4, constantValue := 0 }, { name := "receipt", type := (.object "java/lang/String"), accessFlags := 2, slot := 5, constantValue := 0 }, { name := "due", type := .long, accessFlags := 2, slot := 6, constantValue := 0 }, { name := "readySince", type := .long, accessFlags := 2, slot := 7, constantValue := 0 }, { name := "until", type := .long, accessFlags := 2, slot := 8, constantValue := 0 }, { name := "reason", type := (.object "java/lang/String"), accessFlags := 2, slot := 9, constantValue := 0 }, { name := "deadAtMillis", type := .long, accessFlags := 2, slot := 10, constantValue := 0 }, { name := "sendBytes", type := .int, accessFlags := 2, slot := 11, constantValue := 0 }, { name := "laterBytes", type := .long, accessFlags := 2, slot := 12, constantValue := 0 }]
  methods := #[k2m0, k2m1, k2m2, k2m3, k2m4]
  instanceTypes := #[.long, (.array .byte), .int, (.object "java/lang/String"), .int, (.object "java/lang/String"), .long, .long, .long, (.object "java/lang/String"), .long, .int, .long]
  staticTypes := #[]
  resolved := Array.replicate 76 none
  statics := none }

def pool3 : Array CpInfo := pool [(1, u "java/lang/Cloneable"), (0, .class_ 1), (0, u "java/lang/Object"), (0, .class_ 3)] 3

/-- java/lang/Cloneable -/
def k3 : Class := { plain "java/lang/Cloneable" (some 0) with
  accessFlags := 1537
  interfaces := #[]
  cf := some (fileOf pool3 2 #[] #[] 1537 4 #[] #[])
  fields := #[]
  methods := #[]
  instanceTypes := #[]
  staticTypes := #[]
  resolved := Array.replicate 8 none
  statics := none }

def pool4 : Array CpInfo := pool [(1, u "java/io/Serializable"), (0, .class_ 1), (0, u "java/lang/Object"), (0, .class_ 3)] 3

/-- java/io/Serializable -/
def k4 : Class := { plain "java/io/Serializable" (some 0) with
  accessFlags := 1537
  interfaces := #[]
  cf := some (fileOf pool4 2 #[] #[] 1537 4 #[] #[])
  fields := #[]
  methods := #[]
  instanceTypes := #[]
  staticTypes := #[]
  resolved := Array.replicate 8 none
  statics := none }

/-- the primitive byte -/
def k5 : Class := { plain "byte" none with kind := .primitive 'B', accessFlags := 0x411 }
/-- [B -/
def k6 : Class := { plain "[B" (some 0) with kind := .array 5 .byte, interfaces := #[3, 4], accessFlags := 1041 }

/-- the primitive int -/
def k7 : Class := { plain "int" none with kind := .primitive 'I', accessFlags := 0x411 }
/-- [I -/
def k8 : Class := { plain "[I" (some 0) with kind := .array 7 .int, interfaces := #[3, 4], accessFlags := 1041 }

def heap : Heap := #[]
def classes : Array Class := #[k0, k1, k2, k3, k4, k5, k6, k7, k8]
def interned : List (Array UInt16 × Addr) := []
def slotsUsed : Nat := 0
def theMethod : MethodId := ⟨1, 1⟩
def args0 : Array Value := #[.long 5, .long 5, .long 5, .int 5, .long 5, .long 5]
def aboutOver (below : List Frame) : State where
  vm := { classes := classes, interned := interned.toArray }
  heap := heap
  slotsUsed := slotsUsed
  threads := #[{ frames := .invoking theMethod args0 :: below }]
def below0 : List Frame := [.native { method := ⟨0, 0⟩, args := #[] }]
def about1 : State := aboutOver below0
def p0 : Program := .bare "" "" ""
def e0 : Env := launch0.env 0 0 0
theorem w_frames : about1.frames = Frame.invoking theMethod args0 :: below0 := rfl
set_option maxRecDepth 65536 in
theorem w_args : argsFit about1.vm theMethod args0 = true := by decide +kernel
set_option maxRecDepth 65536 in
theorem w_heap : heapFits about1 = true := by decide +kernel
set_option maxRecDepth 65536 in
theorem w_runnable : about1.curStatus? = some .runnable := by decide +kernel
set_option maxRecDepth 65536 in
theorem w_alone : about1.alone = true := by decide +kernel
set_option maxRecDepth 65536 in
theorem w_named : about1.methodNamed? x = some theMethod := by decide +kernel
set_option maxRecDepth 65536 in
theorem w_hears : about1.hears theMethod below0 = true := by decide +kernel
set_option maxRecDepth 65536 in
theorem w_ripe : about1.ripe theMethod args0 below0 = true := by decide +kernel
theorem w_running : about1.status = .running := rfl
set_option maxRecDepth 65536 in
theorem w_room : about1.hasRoom e0.platform room_1 = true :=
  launch0.hasRoom_least _ room_1 (by decide +kernel) (by decide +kernel) (by decide +kernel) (by decide +kernel) (by decide +kernel) (by decide +kernel)
theorem allAtoms_all (ts : List Jvm.Cond) (a : Array Jvm.Value) (st : Jvm.State) : (allAtoms ts).before a st = ts.all (fun c => c.before a st) := by
  induction ts with
  | nil => rfl
  | cons c t ih =>
    show (Jvm.Cond.and c (allAtoms t)).before a st = _
    rw [Jvm.Cond.before_and, ih, List.all_cons]
def words1 : List Jvm.Cond := Jvm.Cond.code x code maxLocals ret :: tables_1
/-- a 'code' word, met by the world's own term for the bytes: nothing is compared byte by byte -/
theorem code_word {y : MethodName} {bytes : ByteArray} {mx : Nat} {rt : Option FieldType} {a : Array Value} {s : State} {m : MethodId} {meth : Method} {c : Code} (h1 : s.methodNamed? y = some m) (h2 : s.vm.method? m = some meth) (h3 : meth.code = some c) (h4 : c.code = bytes)
    (h5 : (c.maxLocals == mx && c.exceptionTable.isEmpty && decide (c.maxStack ≤ mostOperands) && decide (meth.sig.returnType = rt) && !meth.locks && decide (parseMethodDescriptor y.desc = some meth.sig)) = true) : (Jvm.Cond.code y bytes mx rt).before a s = true := by
  simp only [Bool.and_eq_true, beq_iff_eq, Bool.not_eq_true', decide_eq_true_eq] at h5
  obtain ⟨⟨⟨⟨⟨g1, g2⟩, g3⟩, g4⟩, g5⟩, g6⟩ := h5
  simp [Cond.before, Cond.holds, Cond.value, h1, h2, h3, h4, g1, g2, g3, g4, g5, g6]
def isCode : Jvm.Cond → Bool
  | .code _ _ _ _ => true
  | _ => false
theorem all_split {L : List Jvm.Cond} {P : Jvm.Cond → Bool} (h1 : L.all (fun c => isCode c || P c) = true) (h2 : ∀ c ∈ L.filter isCode, P c = true) : L.all P = true := by
  refine List.all_eq_true.mpr fun c hc => ?_
  have h := List.all_eq_true.mp h1 c hc
  rcases Bool.eq_false_or_eq_true (isCode c) with hi | hi
  · exact h2 c (List.mem_filter.mpr ⟨hc, hi⟩)
  · simpa [hi] using h
set_option maxRecDepth 65536 in
theorem w_c0 : (Jvm.Cond.code x code maxLocals ret).before args0 about1 = true := code_word (m := ⟨1, 1⟩) (meth := k1m1) (c := k1c1) (by decide +kernel) rfl rfl rfl (by decide +kernel)
set_option maxRecDepth 65536 in
theorem w_c1 : (Jvm.Cond.code ({ cls := "com/example/millrace/millrace/queue/Message", name := "<init>", desc := "(J[BILjava/lang/String;J)V" } : Jvm.MethodName) prog_20_method_1_code (8 : Nat) (Option.none : Option Jvm.ClassFile.FieldType)).before args0 about1 = true := code_word (m := ⟨2, 0⟩) (meth := k2m0) (c := k2c0) (by decide +kernel) rfl rfl rfl (by decide +kernel)
set_option maxRecDepth 65536 in
theorem w_c2 : (Jvm.Cond.code ({ cls := "java/lang/Object", name := "<init>", desc := "()V" } : Jvm.MethodName) object_method_1_code (1 : Nat) (Option.none : Option Jvm.ClassFile.FieldType)).before args0 about1 = true := code_word (m := ⟨0, 0⟩) (meth := k0m0) (c := k0c0) (by decide +kernel) rfl rfl rfl (by decide +kernel)
set_option maxRecDepth 65536 in
theorem w_c3 : (Jvm.Cond.code ({ cls := "com/example/millrace/millrace/queue/Message", name := "setSendBytes", desc := "(I)V" } : Jvm.MethodName) prog_20_method_21_code (2 : Nat) (Option.none : Option Jvm.ClassFile.FieldType)).before args0 about1 = true := code_word (m := ⟨2, 2⟩) (meth := k2m2) (c := k2c2) (by decide +kernel) rfl rfl rfl (by decide +kernel)
set_option maxRecDepth 65536 in
theorem w_c4 : (Jvm.Cond.code ({ cls := "com/example/millrace/millrace/queue/Message", name := "addJournalBytes", desc := "(J)V" } : Jvm.MethodName) prog_20_method_22_code (3 : Nat) (Option.none : Option Jvm.ClassFile.FieldType)).before args0 about1 = true := code_word (m := ⟨2, 3⟩) (meth := k2m3) (c := k2c3) (by decide +kernel) rfl rfl rfl (by decide +kernel)
set_option maxRecDepth 65536 in
theorem w_c5 : (Jvm.Cond.code ({ cls := "com/example/millrace/millrace/queue/Message", name := "forgetLaterBytes", desc := "()J" } : Jvm.MethodName) prog_20_method_23_code (3 : Nat) (Option.some Jvm.ClassFile.FieldType.long)).before args0 about1 = true := code_word (m := ⟨2, 4⟩) (meth := k2m4) (c := k2c4) (by decide +kernel) rfl rfl rfl (by decide +kernel)
set_option maxRecDepth 65536 in
theorem w_c6 : (Jvm.Cond.code ({ cls := "com/example/millrace/millrace/queue/Message", name := "journalBytes", desc := "()J" } : Jvm.MethodName) prog_20_method_20_code (1 : Nat) (Option.some Jvm.ClassFile.FieldType.long)).before args0 about1 = true := code_word (m := ⟨2, 1⟩) (meth := k2m1) (c := k2c1) (by decide +kernel) rfl rfl rfl (by decide +kernel)
def codes1 : List Jvm.Cond := [Jvm.Cond.code x code maxLocals ret, Jvm.Cond.code ({ cls := "com/example/millrace/millrace/queue/Message", name := "<init>", desc := "(J[BILjava/lang/String;J)V" } : Jvm.MethodName) prog_20_method_1_code (8 : Nat) (Option.none : Option Jvm.ClassFile.FieldType), Jvm.Cond.code ({ cls := "java/lang/Object", name := "<init>", desc := "()V" } : Jvm.MethodName) object_method_1_code (1 : Nat) (Option.none : Option Jvm.ClassFile.FieldType), Jvm.Cond.code ({ cls := "com/example/millrace/millrace/queue/Message", name := "setSendBytes", desc := "(I)V" } : Jvm.MethodName) prog_20_method_21_code (2 : Nat) (Option.none : Option Jvm.ClassFile.FieldType), Jvm.Cond.code ({ cls := "com/example/millrace/millrace/queue/Message", name := "addJournalBytes", desc := "(J)V" } : Jvm.MethodName) prog_20_method_22_code (3 : Nat) (Option.none : Option Jvm.ClassFile.FieldType), Jvm.Cond.code ({ cls := "com/example/millrace/millrace/queue/Message", name := "forgetLaterBytes", desc := "()J" } : Jvm.MethodName) prog_20_method_23_code (3 : Nat) (Option.some Jvm.ClassFile.FieldType.long), Jvm.Cond.code ({ cls := "com/example/millrace/millrace/queue/Message", name := "journalBytes", desc := "()J" } : Jvm.MethodName) prog_20_method_20_code (1 : Nat) (Option.some Jvm.ClassFile.FieldType.long)]
set_option maxRecDepth 65536 in
theorem codes_eq : words1.filter isCode = codes1 := rfl
theorem w_codes : ∀ c ∈ words1.filter isCode, c.before args0 about1 = true := by
  rw [codes_eq]
  intro c hc
  simp only [codes1, List.mem_cons, List.not_mem_nil, or_false] at hc
  rcases hc with rfl | rfl | rfl | rfl | rfl | rfl | rfl
  · exact w_c0
  · exact w_c1
  · exact w_c2
  · exact w_c3
  · exact w_c4
  · exact w_c5
  · exact w_c6
set_option maxRecDepth 65536 in
theorem w_t1 : (words1.take 24).all (fun c => isCode c || c.before args0 about1) = true := by decide +kernel
set_option maxRecDepth 65536 in
theorem w_t2 : (words1.drop 24).all (fun c => isCode c || c.before args0 about1) = true := by decide +kernel
theorem w_tables : (allAtoms (Jvm.Cond.code x code maxLocals ret :: tables_1)).before args0 about1 = true := by
  rw [allAtoms_all]
  show words1.all (fun c => c.before args0 about1) = true
  refine all_split ?_ w_codes
  rw [← List.take_append_drop 24 words1, List.all_append, w_t1, w_t2]
  rfl
set_option maxRecDepth 65536 in
theorem w_case : (Jvm.Cond.and given_1 narrow_1).before args0 about1 = true := by decide +kernel
theorem w_applies : (headSpec (Jvm.Cond.code x code maxLocals ret :: tables_1) room_1).applies x e0.platform about1 = true :=
  (Spec.applies_iff w_frames).mpr ⟨w_running, w_runnable, w_alone, w_named, w_hears, w_ripe, w_room, w_tables⟩
theorem atStart : AtStart classFile x code maxLocals ret World_1 tables_1 room_1 Calls_1 rest_1 Pre_1 launch0 p0 e0 about1 theMethod args0 below0 :=
  ⟨lists_1, trivial, launch0.admits_env _ _ _, launch0.least_env, fairChoices_fair.cas, fairChoices_fair.clock, w_frames, w_args, w_heap, w_applies, trivial, trivial, w_case⟩
end start1
theorem witness_1 : WitnessClaimed_1 := ⟨start1.p0, start1.e0, start1.about1, start1.theMethod, start1.args0, start1.below0, start1.atStart⟩
end Jvm.Pilot.@@N@@
