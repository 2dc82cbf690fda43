import JvmDerived
import JvmDerived.Pilot.@@N@@Statement
import JvmDerived.Pilot.@@N@@Code
set_option linter.unusedVariables false
set_option linter.unusedSimpArgs false
namespace Jvm.Pilot.@@N@@
open Jvm Jvm.ClassFile Sem Op Lib Jvm.Free Jvm.Stand Jvm.LawKit Jvm.RoadKit Bundle Jvm.Pilot.@@N@@.Jvm.D
section OwnKit
variable {p : Program} {l : Launch} {e : Env} {R : Room} {s : State} {m : MethodId} {args : Array Value} {below : List Frame} {meth : Method} {c : Code} {T : State} {locs : List Loc} {cells slots : Nat}
/-- from the state A the body runs to its end and leaves what Q says -/
def own_Go (p : Program) (e : Env) (below : List Frame) (s : State) (Q : Option Value → Heap → List Loc → Prop) (kc ks : Nat) (A : State) : Prop :=
  ∃ s₂ o, Steps p.tables e below A s₂ ∧ s₂.status = .running ∧ Ended s₂ below o ∧ ∃ v L, o = .returned v ∧ Q v s₂.heap L ∧ FrameEnd s o s₂ L kc ks
theorem own_go {Q : Option Value → Heap → List Loc → Prop} {kc ks : Nat} {A B : State} (h : ∀ t, Steps p.tables e below B t → Steps p.tables e below A t) (k : own_Go p e below s Q kc ks B) : own_Go p e below s Q kc ks A := by
  obtain ⟨s₂, o, h1, h2⟩ := k
  exact ⟨s₂, o, h _ h1, h2⟩
/-- from the state A the body runs to the frame g', the heap as it was -/
def own_Arm (p : Program) (l : Launch) (e : Env) (R : Room) (s : State) (m : MethodId) (args : Array Value) (below : List Frame) (meth : Method) (c : Code) (cells slots n0 : Nat) (h : Heap) (g' : JFrame) (A : State) : Prop :=
  ∃ (T' : State) (locs' : List Loc), Stand p l e R s m args below meth c T' locs' cells slots ∧ Fr n0 locs' ∧ T'.heap = h ∧ ∀ t, Steps p.tables e below (T'.setTop g') t → Steps p.tables e below A t
theorem own_arm {n0 : Nat} {h : Heap} {g' : JFrame} {A B : State} (k1 : ∀ t, Steps p.tables e below B t → Steps p.tables e below A t) (k : own_Arm p l e R s m args below meth c cells slots n0 h g' B) : own_Arm p l e R s m args below meth c cells slots n0 h g' A := by
  obtain ⟨T', locs', h1, h2, h3, h4⟩ := k
  exact ⟨T', locs', h1, h2, h3, fun t kt => k1 t (h4 t kt)⟩
theorem own_armEnd {n0 : Nat} {h : Heap} {g g' : JFrame} (X : Stand p l e R s m args below meth c T locs cells slots) (N : Fr n0 locs) (eT : T.heap = h) (q : g' = g) : own_Arm p l e R s m args below meth c cells slots n0 h g' (T.setTop g) :=
  ⟨T, locs, X, N, eT, fun t kt => q ▸ kt⟩
theorem own_mrg {n0 : Nat} {h : Heap} {g g' : JFrame} (X : Stand p l e R s m args below meth c T locs cells slots) (k : own_Arm p l e R s m args below meth c cells slots n0 h g' (T.setTop g)) :
    ∃ (T' : State) (locs' : List Loc), Stand p l e R s m args below meth c T' locs' cells slots ∧ Fr n0 locs' ∧ T'.heap = h ∧ ∀ t, Steps p.tables e below (T'.setTop g') t → Steps p.tables e below (T.setTop g) t := k
theorem own_leave {Q : Option Value → Heap → List Loc → Prop} {kc ks : Nat} {A : State} {v : Option Value} (X : Stand p l e R s m args below meth c T locs cells slots) (hv : meth.sig.returnType = none → v = none) (hlk : meth.locks = false)
    (hc : cells ≤ kc) (hs : slots ≤ ks) (hQ : Q v T.heap locs) (k : ∀ fs, (∀ (f : JFrame) (acts : List Action), f.method = m → f.locked = none → f.entered = [] → (doReturn e (T.setTop f) acts v).1 = T.setFrames fs) → Steps p.tables e below A (T.setFrames fs)) : own_Go p e below s Q kc ks A := by
  obtain ⟨fs, hr, hrun, hended, hW, hsame⟩ := X.leave (v := v) hv hlk
  exact ⟨_, _, k fs hr, hrun, hended, _, _, rfl, hQ, ⟨_, rfl⟩, hW, hsame.mono hc hs⟩
theorem own_retI {Q : Option Value → Heap → List Loc → Prop} {kc ks pc : Nat} {Ls : Array Slot} {z : Int32} {rest : List Value} (X : Stand p l e R s m args below meth c T locs cells slots) (hx : p.tables.exec = Jvm.exec) (hret : meth.sig.returnType = some .int) (hlk : meth.locks = false)
    (hd : decode c.code pc = .ok (.ireturn, 1)) (hc : cells ≤ kc) (hs : slots ≤ ks) (hQ : Q (some (.int z)) T.heap locs) : own_Go p e below s Q kc ks (T.setTop (mkF m pc Ls (.int z :: rest))) := by
  refine own_leave X (fun h => by rw [hret] at h; cases h) hlk hc hs hQ fun fs hl => ?_
  have hm' : T.vm.method? m = some meth := X.method'
  have hn : narrow .int (.int z) = .int z := rfl
  show Steps p.tables e below (T.setTop { method := m, pc := pc, locals := Ls, stack := _ :: rest, locked := none }) _
  jvm_step X.here [X.here.top, hx, hd, hm', hret, hn]
  first | (intro acts; rw [hl _ acts rfl rfl rfl]) | rw [hl _ _ rfl rfl rfl]
  exact Steps.refl _
theorem own_retN {Q : Option Value → Heap → List Loc → Prop} {kc ks pc : Nat} {Ls : Array Slot} {z : Int32} {rest : List Value} {t : FieldType} (X : Stand p l e R s m args below meth c T locs cells slots) (hx : p.tables.exec = Jvm.exec) (hret : meth.sig.returnType = some t) (ht : t = .boolean ∨ t = .byte ∨ t = .char ∨ t = .short) (hlk : meth.locks = false)
    (hd : decode c.code pc = .ok (.ireturn, 1)) (hc : cells ≤ kc) (hs : slots ≤ ks) (hQ : Q (some (.int (nar t z))) T.heap locs) : own_Go p e below s Q kc ks (T.setTop (mkF m pc Ls (.int z :: rest))) :=
  own_leave X (fun h => by rw [hret] at h; cases h) hlk hc hs hQ fun fs hl => retN X hx (t := t) hret ht hd hl
theorem own_nar01 {z : Int32} (h : z = 0 ∨ z = 1) : nar .boolean z = z := by rcases h with rfl | rfl <;> rfl
theorem own_retZ {Q : Option Value → Heap → List Loc → Prop} {kc ks pc : Nat} {Ls : Array Slot} {z : Int32} {rest : List Value} (X : Stand p l e R s m args below meth c T locs cells slots) (hx : p.tables.exec = Jvm.exec) (hret : meth.sig.returnType = some .boolean) (hlk : meth.locks = false)
    (hd : decode c.code pc = .ok (.ireturn, 1)) (hc : cells ≤ kc) (hs : slots ≤ ks) (hz : z = 0 ∨ z = 1) (hQ : Q (some (.int z)) T.heap locs) : own_Go p e below s Q kc ks (T.setTop (mkF m pc Ls (.int z :: rest))) :=
  own_retN X hx hret (Or.inl rfl) hlk hd hc hs (by rw [own_nar01 hz]; exact hQ)
theorem own_retJ {Q : Option Value → Heap → List Loc → Prop} {kc ks pc : Nat} {Ls : Array Slot} {z : Int64} (X : Stand p l e R s m args below meth c T locs cells slots) (hx : p.tables.exec = Jvm.exec) (hret : meth.sig.returnType = some .long) (hlk : meth.locks = false)
    (hd : decode c.code pc = .ok (.lreturn, 1)) (hc : cells ≤ kc) (hs : slots ≤ ks) (hQ : Q (some (.long z)) T.heap locs) : own_Go p e below s Q kc ks (T.setTop (mkF m pc Ls [.long z])) :=
  own_leave X (fun h => by rw [hret] at h; cases h) hlk hc hs hQ fun fs hl => X.lreturnOut hx hret hd hl
theorem own_retA {Q : Option Value → Heap → List Loc → Prop} {kc ks pc : Nat} {Ls : Array Slot} {w : Value} {t : FieldType} {rest : List Value} (X : Stand p l e R s m args below meth c T locs cells slots) (hx : p.tables.exec = Jvm.exec) (hret : meth.sig.returnType = some t) (ht : t.isReference = true) (hw : w.isRef = true) (hlk : meth.locks = false)
    (hd : decode c.code pc = .ok (.areturn, 1)) (hc : cells ≤ kc) (hs : slots ≤ ks) (hQ : Q (some w) T.heap locs) : own_Go p e below s Q kc ks (T.setTop (mkF m pc Ls (w :: rest))) := by
  refine own_leave X (fun h => by rw [hret] at h; cases h) hlk hc hs hQ fun fs hl => ?_
  have hm' : T.vm.method? m = some meth := X.method'
  show Steps p.tables e below (T.setTop { method := m, pc := pc, locals := Ls, stack := _ :: rest, locked := none }) _
  rcases ref_cases hw with rfl | ⟨a, rfl⟩
  all_goals
    jvm_step X.here [X.here.top, hx, hd, hm', hret, Value.isRef, ht]
    first | (intro acts; rw [hl _ acts rfl rfl rfl]) | rw [hl _ _ rfl rfl rfl]
    exact Steps.refl _
theorem own_retV {Q : Option Value → Heap → List Loc → Prop} {kc ks pc : Nat} {Ls : Array Slot} (X : Stand p l e R s m args below meth c T locs cells slots) (hx : p.tables.exec = Jvm.exec) (hret : meth.sig.returnType = none) (hlk : meth.locks = false)
    (hd : decode c.code pc = .ok (.return_, 1)) (hc : cells ≤ kc) (hs : slots ≤ ks) (hQ : Q none T.heap locs) : own_Go p e below s Q kc ks (T.setTop (mkF m pc Ls [])) :=
  own_leave X (fun _ => rfl) hlk hc hs hQ fun fs hl => X.returnOut hx hret hd hl
theorem own_getFR {Z : State} {a0 : Array Value} {h : Heap} (X : Stand p l e R s m args below meth c T locs cells slots) (hx : p.tables.exec = Jvm.exec) (hZ : Z.Warmed39 s.vm) {own O n d : String} {index : Nat} (hown : s.vm.findClass own = some m.cls) (w : (Jvm.Cond.fieldRef own index O n d).before a0 Z = true)
    (eT : T.heap = h) {a : Addr} {v : Value} (F : Fld Z h a O n d v) {g : JFrame} (hg : g.method = m) {rest : List Value} (hs : g.stack = .ref a :: rest) (hd : decode c.code g.pc = .ok (.getfield index, 3)) (target : State) (k : Steps p.tables e below (T.setTop { g with pc := g.pc + 3, stack := v :: rest }) target) : Steps p.tables e below (T.setTop g) target := by
  obtain ⟨cell, cf, kc, i, f, h1, h2, h3, h4, -, -, h7⟩ := F
  have hW : Z.Warmed39 T.vm := wtrans hZ X.warmed
  have w2 := Cond.fieldRef_warmed39 hW w
  obtain ⟨k', hi, -⟩ := State.fieldFound?_setVm (s := Z) hW.alike h2
  have hc : (Z.setVm T.vm).vm.findClass own = some m.cls := by show T.vm.findClass own = _; rw [X.warmed.alike.findClass]; exact hown
  obtain ⟨c1, k1, i1, f1, e1, hr⟩ := Cond.fieldRef_spec hc w2
  cases hi.symm.trans e1
  exact (X.getfieldR hx hg (cF := cf) (field := f) hr h3 hs (by rw [eT]; exact h1) h4 h7 hd (Steps.refl _)).trans k
theorem own_ite01 {c : Prop} [Decidable c] {a b : Int32} (ha : a = 0 ∨ a = 1) (hb : b = 0 ∨ b = 1) : (if c then a else b) = 0 ∨ (if c then a else b) = 1 := by split <;> assumption
end OwnKit
theorem own_lc_eq {a b : Int64} (h : a = b) : lcmpW a b = 0 := by subst h; simp [lcmpW]
theorem own_lc_neq {a b : Int64} (h : ¬ (a = b)) : ¬ (lcmpW a b = 0) := by unfold lcmpW; split <;> first | decide | (rw [if_neg h]; decide)
theorem own_lc_lt {a b : Int64} (h : a < b) : lcmpW a b < 0 := by
  have h1 : ¬ (a > b) := fun q => Int64.lt_irrefl (Int64.lt_trans h q)
  have h2 : ¬ (a = b) := fun q => by subst q; exact Int64.lt_irrefl h
  rw [lcmpW, if_neg h1, if_neg h2]; decide
theorem own_lc_nlt {a b : Int64} (h : ¬ (a < b)) : ¬ (lcmpW a b < 0) := by
  unfold lcmpW
  split
  · decide
  · rename_i h1
    split
    · decide
    · rename_i h2; exact absurd (Int64.le_antisymm (Int64.not_lt.mp h1) (Int64.not_lt.mp h)) h2
theorem own_lc_gt {a b : Int64} (h : b < a) : (0 : Int32) < lcmpW a b := by rw [lcmpW, if_pos h]; decide
theorem own_lc_ngt {a b : Int64} (h : ¬ (b < a)) : ¬ ((0 : Int32) < lcmpW a b) := by
  rw [lcmpW, if_neg h]; split <;> decide
theorem own_rn {w : Value} {C : String} (h : w.isRef = true) : narrow (.object C) w = w := by rcases ref_cases h with rfl | ⟨a, rfl⟩ <;> rfl
theorem own_rf {w : Value} {C : String} (h : w.isRef = true) : fits (.object C) w = true := by rcases ref_cases h with rfl | ⟨a, rfl⟩ <;> rfl
theorem own_plainE {Z : State} {h : Heap} {a : Addr} {C : String} (E : Exa Z h a C) : ∀ cell : Cell, h[a]? = some cell → cell.vm.isStatics = false := fun cell hc => by
  obtain ⟨c, k, h1, -, -, h4, -⟩ := E
  cases h1.symm.trans hc; exact h4
theorem own_staKeep {Z : State} {h h' : Heap} {C n d : String} {v : Value} {ws : List Addr} (F : Sta Z h C n d v) (K : Keep h h' ws) (q : ∀ x ∈ ws, ∀ cell : Cell, h[x]? = some cell → cell.vm.isStatics = false) : Sta Z h' C n d v := by
  obtain ⟨cf, i, k, f, st, cell, h1, h2, h3, h4, h5, h6, h7⟩ := F
  exact ⟨cf, i, k, f, st, cell, h1, h2, h3, h4, K.2.1 st cell h5 (fun hm => by rw [q st hm cell h5] at h6; cases h6), h6, h7⟩
def own_up {α : Type} (f : Nat → α) (i : Nat) (v : α) : Nat → α := fun k => if k = i then v else f k
def own_AI (Z : State) (h : Heap) (a : Addr) (ty : FieldType) (n : Nat) (f : Nat → Int32) : Prop := ∃ c : Cell, Arr Z h a c ty ∧ c.slots.size = n ∧ n < 2 ^ 31 ∧ ∀ j, j < n → c.slots[j]? = some (.int (f j))
theorem own_AI.lt {Z : State} {h : Heap} {a : Addr} {ty : FieldType} {n : Nat} {f : Nat → Int32} (F : own_AI Z h a ty n f) : a < h.size := by obtain ⟨c, A, -⟩ := F; exact A.lt
theorem own_AI.ext {Z : State} {h h' : Heap} {a : Addr} {ty : FieldType} {n : Nat} {f : Nat → Int32} (F : own_AI Z h a ty n f) (E : Ext h h') : own_AI Z h' a ty n f := by obtain ⟨c, A, r⟩ := F; exact ⟨c, A.ext E, r⟩
theorem own_AI.other {Z : State} {h h' : Heap} {a b : Addr} {ty : FieldType} {n sl : Nat} {w : Value} {f : Nat → Int32} (F : own_AI Z h a ty n f) (W : Wr h h' b sl w) (q : a ≠ b) : own_AI Z h' a ty n f := by obtain ⟨c, A, r⟩ := F; exact ⟨c, A.other W q, r⟩
theorem own_AI.keep {Z : State} {h h' : Heap} {a : Addr} {ty : FieldType} {n : Nat} {ws : List Addr} {f : Nat → Int32} (F : own_AI Z h a ty n f) (K : Keep h h' ws) (q : a ∉ ws) : own_AI Z h' a ty n f := by obtain ⟨c, A, r⟩ := F; exact ⟨c, ⟨K.2.1 a c A.1 q, A.2⟩, r⟩
theorem own_plainAI {Z : State} {h : Heap} {a : Addr} {ty : FieldType} {n : Nat} {f : Nat → Int32} (F : own_AI Z h a ty n f) : ∀ cell : Cell, h[a]? = some cell → cell.vm.isStatics = false := fun cell hc => by
  obtain ⟨c, A, -⟩ := F
  cases A.1.symm.trans hc; exact A.plain
theorem own_AI.wr {Z : State} {h h' : Heap} {a : Addr} {ty : FieldType} {n i : Nat} {x : Int32} {f : Nat → Int32} (F : own_AI Z h a ty n f) (W : Wr h h' a i (.int x)) : own_AI Z h' a ty n (own_up f i x) := by
  obtain ⟨c, A, S, B, H⟩ := F
  refine ⟨_, A.same W, by rw [sz_set]; exact S, B, fun j hj => ?_⟩
  show (c.slots.setIfInBounds i _)[j]? = _
  rw [Array.getElem?_setIfInBounds]
  by_cases q : i = j
  · subst q
    rw [if_pos rfl, if_pos (by rw [S]; exact hj)]; simp [own_up]
  · rw [if_neg q, H j hj, own_up, if_neg (fun e => q e.symm)]
theorem own_AI.new {Z : State} {h : Heap} {a : Addr} {k : ClassId} {ty : FieldType} {z : Int32} {n : Nat} (A : Arr Z h a (newA k ty z) ty) (hd : defaultValue ty = .int 0) (hn : z.toNatClampNeg = n) : own_AI Z h a ty n (fun _ => 0) := by
  refine ⟨_, A, by rw [sz_new]; exact hn, ?_, fun j hj => ?_⟩
  · have := Int32.toInt_lt z; rw [← hn]; unfold Int32.toNatClampNeg; omega
  · have hs : (newA k ty z).slots.size = n := by rw [sz_new]; exact hn
    simp only [newA] at hs ⊢
    rw [Array.getElem?_replicate, if_pos (by rw [hn]; exact hj), hd]
def own_AJ (Z : State) (h : Heap) (a : Addr) (ty : FieldType) (n : Nat) (f : Nat → Int64) : Prop := ∃ c : Cell, Arr Z h a c ty ∧ c.slots.size = n ∧ n < 2 ^ 31 ∧ ∀ j, j < n → c.slots[j]? = some (.long (f j))
theorem own_AJ.lt {Z : State} {h : Heap} {a : Addr} {ty : FieldType} {n : Nat} {f : Nat → Int64} (F : own_AJ Z h a ty n f) : a < h.size := by obtain ⟨c, A, -⟩ := F; exact A.lt
theorem own_AJ.ext {Z : State} {h h' : Heap} {a : Addr} {ty : FieldType} {n : Nat} {f : Nat → Int64} (F : own_AJ Z h a ty n f) (E : Ext h h') : own_AJ Z h' a ty n f := by obtain ⟨c, A, r⟩ := F; exact ⟨c, A.ext E, r⟩
theorem own_AJ.other {Z : State} {h h' : Heap} {a b : Addr} {ty : FieldType} {n sl : Nat} {w : Value} {f : Nat → Int64} (F : own_AJ Z h a ty n f) (W : Wr h h' b sl w) (q : a ≠ b) : own_AJ Z h' a ty n f := by obtain ⟨c, A, r⟩ := F; exact ⟨c, A.other W q, r⟩
theorem own_AJ.keep {Z : State} {h h' : Heap} {a : Addr} {ty : FieldType} {n : Nat} {ws : List Addr} {f : Nat → Int64} (F : own_AJ Z h a ty n f) (K : Keep h h' ws) (q : a ∉ ws) : own_AJ Z h' a ty n f := by obtain ⟨c, A, r⟩ := F; exact ⟨c, ⟨K.2.1 a c A.1 q, A.2⟩, r⟩
theorem own_plainAJ {Z : State} {h : Heap} {a : Addr} {ty : FieldType} {n : Nat} {f : Nat → Int64} (F : own_AJ Z h a ty n f) : ∀ cell : Cell, h[a]? = some cell → cell.vm.isStatics = false := fun cell hc => by
  obtain ⟨c, A, -⟩ := F
  cases A.1.symm.trans hc; exact A.plain
theorem own_AJ.wr {Z : State} {h h' : Heap} {a : Addr} {ty : FieldType} {n i : Nat} {x : Int64} {f : Nat → Int64} (F : own_AJ Z h a ty n f) (W : Wr h h' a i (.long x)) : own_AJ Z h' a ty n (own_up f i x) := by
  obtain ⟨c, A, S, B, H⟩ := F
  refine ⟨_, A.same W, by rw [sz_set]; exact S, B, fun j hj => ?_⟩
  show (c.slots.setIfInBounds i _)[j]? = _
  rw [Array.getElem?_setIfInBounds]
  by_cases q : i = j
  · subst q
    rw [if_pos rfl, if_pos (by rw [S]; exact hj)]; simp [own_up]
  · rw [if_neg q, H j hj, own_up, if_neg (fun e => q e.symm)]
theorem own_AJ.new {Z : State} {h : Heap} {a : Addr} {k : ClassId} {ty : FieldType} {z : Int32} {n : Nat} (A : Arr Z h a (newA k ty z) ty) (hd : defaultValue ty = .long 0) (hn : z.toNatClampNeg = n) : own_AJ Z h a ty n (fun _ => 0) := by
  refine ⟨_, A, by rw [sz_new]; exact hn, ?_, fun j hj => ?_⟩
  · have := Int32.toInt_lt z; rw [← hn]; unfold Int32.toNatClampNeg; omega
  · have hs : (newA k ty z).slots.size = n := by rw [sz_new]; exact hn
    simp only [newA] at hs ⊢
    rw [Array.getElem?_replicate, if_pos (by rw [hn]; exact hj), hd]
section OwnArr
variable {p : Program} {l : Launch} {e : Env} {R : Room} {s : State} {m : MethodId} {args : Array Value} {below : List Frame} {meth : Method} {c : Code} {T : State} {locs : List Loc} {cells slots : Nat} {Z : State} {h : Heap}
theorem own_inb {j : Int32} {n k : Nat} (S : k = n) (hj : ¬ j < 0 ∧ j.toNatClampNeg < n) : ¬ (j < 0 ∨ k ≤ j.toNatClampNeg) := fun q => q.elim hj.1 (fun u => absurd hj.2 (by omega))
theorem own_ldI (X : Stand p l e R s m args below meth c T locs cells slots) (hx : p.tables.exec = Jvm.exec) (hZ : Z.Warmed39 s.vm) (eT : T.heap = h) {a : Addr} {n : Nat} {f : Nat → Int32} (A : own_AI Z h a .int n f) {j : Int32} (hj : ¬ j < 0 ∧ j.toNatClampNeg < n)
    {g : JFrame} (hg : g.method = m) {rest : List Value} (hs : g.stack = .int j :: .ref a :: rest) (hd : decode c.code g.pc = .ok (.iaload, 1)) (target : State) (k : Steps p.tables e below (T.setTop { g with pc := g.pc + 1, stack := .int (f j.toNatClampNeg) :: rest }) target) : Steps p.tables e below (T.setTop g) target := by
  obtain ⟨c', Ar, S, -, H⟩ := A
  exact X.iaload hx (by rw [eT]; exact Ar.1) (State.isArrayOf_alike hZ.alike Ar.2.1) Ar.2.2 (own_inb S hj) (H _ hj.2) hg hs hd target k
theorem own_ldB (X : Stand p l e R s m args below meth c T locs cells slots) (hx : p.tables.exec = Jvm.exec) (hZ : Z.Warmed39 s.vm) (eT : T.heap = h) {a : Addr} {n : Nat} {f : Nat → Int32} (A : own_AI Z h a .byte n f) {j : Int32} (hj : ¬ j < 0 ∧ j.toNatClampNeg < n)
    {g : JFrame} (hg : g.method = m) {rest : List Value} (hs : g.stack = .int j :: .ref a :: rest) (hd : decode c.code g.pc = .ok (.baload, 1)) (target : State) (k : Steps p.tables e below (T.setTop { g with pc := g.pc + 1, stack := .int (f j.toNatClampNeg) :: rest }) target) : Steps p.tables e below (T.setTop g) target := by
  obtain ⟨c', Ar, S, -, H⟩ := A
  exact X.baloadBytes hx (by rw [eT]; exact Ar.1) (State.isArrayOf_alike hZ.alike Ar.2.1) Ar.2.2 (own_inb S hj) (H _ hj.2) hg hs hd target k
theorem own_ldJ (X : Stand p l e R s m args below meth c T locs cells slots) (hx : p.tables.exec = Jvm.exec) (hZ : Z.Warmed39 s.vm) (eT : T.heap = h) {a : Addr} {n : Nat} {f : Nat → Int64} (A : own_AJ Z h a .long n f) {j : Int32} (hj : ¬ j < 0 ∧ j.toNatClampNeg < n)
    {g : JFrame} (hg : g.method = m) {rest : List Value} (hs : g.stack = .int j :: .ref a :: rest) (hd : decode c.code g.pc = .ok (.laload, 1)) (target : State) (k : Steps p.tables e below (T.setTop { g with pc := g.pc + 1, stack := .long (f j.toNatClampNeg) :: rest }) target) : Steps p.tables e below (T.setTop g) target := by
  obtain ⟨c', Ar, S, -, H⟩ := A
  exact X.laload hx (by rw [eT]; exact Ar.1) (State.isArrayOf_alike hZ.alike Ar.2.1) Ar.2.2 (own_inb S hj) (H _ hj.2) hg hs hd target k
theorem own_lenI (X : Stand p l e R s m args below meth c T locs cells slots) (hx : p.tables.exec = Jvm.exec) (hZ : Z.Warmed39 s.vm) (eT : T.heap = h) {a : Addr} {ty : FieldType} {n : Nat} {f : Nat → Int32} (A : own_AI Z h a ty n f)
    {g : JFrame} (hg : g.method = m) {rest : List Value} (hs : g.stack = .ref a :: rest) (hd : decode c.code g.pc = .ok (.arraylength, 1)) (target : State) (k : Steps p.tables e below (T.setTop { g with pc := g.pc + 1, stack := .int (n.toInt32) :: rest }) target) : Steps p.tables e below (T.setTop g) target := by
  obtain ⟨c', Ar, S, -, H⟩ := A
  exact X.arraylength hx (by rw [eT]; exact Ar.1) (State.isArrayOf_alike hZ.alike Ar.2.1) hg hs hd target (by rw [S]; exact k)
theorem own_lenJ (X : Stand p l e R s m args below meth c T locs cells slots) (hx : p.tables.exec = Jvm.exec) (hZ : Z.Warmed39 s.vm) (eT : T.heap = h) {a : Addr} {ty : FieldType} {n : Nat} {f : Nat → Int64} (A : own_AJ Z h a ty n f)
    {g : JFrame} (hg : g.method = m) {rest : List Value} (hs : g.stack = .ref a :: rest) (hd : decode c.code g.pc = .ok (.arraylength, 1)) (target : State) (k : Steps p.tables e below (T.setTop { g with pc := g.pc + 1, stack := .int (n.toInt32) :: rest }) target) : Steps p.tables e below (T.setTop g) target := by
  obtain ⟨c', Ar, S, -, H⟩ := A
  exact X.arraylength hx (by rw [eT]; exact Ar.1) (State.isArrayOf_alike hZ.alike Ar.2.1) hg hs hd target (by rw [S]; exact k)
theorem own_stI (X : Stand p l e R s m args below meth c T locs cells slots) (hx : p.tables.exec = Jvm.exec) (hZ : Z.Warmed39 s.vm) (eT : T.heap = h) {a : Addr} {n : Nat} {f : Nat → Int32} (A : own_AI Z h a .int n f) {j x : Int32} (hj : ¬ j < 0 ∧ j.toNatClampNeg < n)
    {g : JFrame} (hg : g.method = m) {rest : List Value} (hs : g.stack = .int x :: .int j :: .ref a :: rest) (hd : decode c.code g.pc = .ok (.iastore, 1)) :
    ∃ T' h', Stand p l e R s m args below meth c T' (locs ++ [⟨a, j.toNatClampNeg⟩]) cells slots ∧ T'.heap = h' ∧ Wr h h' a j.toNatClampNeg (.int x) ∧ own_AI Z h' a .int n (own_up f j.toNatClampNeg x) ∧ ∀ target, Steps p.tables e below (T'.setTop { g with pc := g.pc + 1, stack := rest }) target → Steps p.tables e below (T.setTop g) target := by
  have A2 := A
  obtain ⟨c', Ar, S, -, H⟩ := A
  obtain ⟨T', h', X', e', W, st⟩ := stI X hx hZ eT Ar (j := j) (x := x) (own_inb S hj) hg hs hd
  exact ⟨T', h', X', e', W, A2.wr W, st⟩
theorem own_stB (X : Stand p l e R s m args below meth c T locs cells slots) (hx : p.tables.exec = Jvm.exec) (hZ : Z.Warmed39 s.vm) (eT : T.heap = h) {a : Addr} {n : Nat} {f : Nat → Int32} (A : own_AI Z h a .byte n f) {j x : Int32} (hj : ¬ j < 0 ∧ j.toNatClampNeg < n)
    {g : JFrame} (hg : g.method = m) {rest : List Value} (hs : g.stack = .int x :: .int j :: .ref a :: rest) (hd : decode c.code g.pc = .ok (.bastore, 1)) :
    ∃ T' h', Stand p l e R s m args below meth c T' (locs ++ [⟨a, j.toNatClampNeg⟩]) cells slots ∧ T'.heap = h' ∧ Wr h h' a j.toNatClampNeg (.int (nar .byte x)) ∧ own_AI Z h' a .byte n (own_up f j.toNatClampNeg (nar .byte x)) ∧ ∀ target, Steps p.tables e below (T'.setTop { g with pc := g.pc + 1, stack := rest }) target → Steps p.tables e below (T.setTop g) target := by
  have A2 := A
  obtain ⟨c', Ar, S, -, H⟩ := A
  obtain ⟨T', h', X', e', W, st⟩ := stB X hx hZ eT Ar (j := j) (x := x) (own_inb S hj) hg hs hd
  exact ⟨T', h', X', e', W, A2.wr W, st⟩
theorem own_stC (X : Stand p l e R s m args below meth c T locs cells slots) (hx : p.tables.exec = Jvm.exec) (hZ : Z.Warmed39 s.vm) (eT : T.heap = h) {a : Addr} {n : Nat} {f : Nat → Int32} (A : own_AI Z h a .char n f) {j x : Int32} (hj : ¬ j < 0 ∧ j.toNatClampNeg < n)
    {g : JFrame} (hg : g.method = m) {rest : List Value} (hs : g.stack = .int x :: .int j :: .ref a :: rest) (hd : decode c.code g.pc = .ok (.castore, 1)) :
    ∃ T' h', Stand p l e R s m args below meth c T' (locs ++ [⟨a, j.toNatClampNeg⟩]) cells slots ∧ T'.heap = h' ∧ Wr h h' a j.toNatClampNeg (.int (nar .char x)) ∧ own_AI Z h' a .char n (own_up f j.toNatClampNeg (nar .char x)) ∧ ∀ target, Steps p.tables e below (T'.setTop { g with pc := g.pc + 1, stack := rest }) target → Steps p.tables e below (T.setTop g) target := by
  have A2 := A
  obtain ⟨c', Ar, S, -, H⟩ := A
  obtain ⟨T', h', X', e', W, st⟩ := stC X hx hZ eT Ar (j := j) (x := x) (own_inb S hj) hg hs hd
  exact ⟨T', h', X', e', W, A2.wr W, st⟩
theorem own_stJ (X : Stand p l e R s m args below meth c T locs cells slots) (hx : p.tables.exec = Jvm.exec) (hZ : Z.Warmed39 s.vm) (eT : T.heap = h) {a : Addr} {n : Nat} {f : Nat → Int64} (A : own_AJ Z h a .long n f) {j : Int32} {x : Int64} (hj : ¬ j < 0 ∧ j.toNatClampNeg < n)
    {g : JFrame} (hg : g.method = m) {rest : List Value} (hs : g.stack = .long x :: .int j :: .ref a :: rest) (hd : decode c.code g.pc = .ok (.lastore, 1)) :
    ∃ T' h', Stand p l e R s m args below meth c T' (locs ++ [⟨a, j.toNatClampNeg⟩]) cells slots ∧ T'.heap = h' ∧ Wr h h' a j.toNatClampNeg (.long x) ∧ own_AJ Z h' a .long n (own_up f j.toNatClampNeg x) ∧ ∀ target, Steps p.tables e below (T'.setTop { g with pc := g.pc + 1, stack := rest }) target → Steps p.tables e below (T.setTop g) target := by
  have A2 := A
  obtain ⟨c', Ar, S, -, H⟩ := A
  obtain ⟨T', h', X', e', W, st⟩ := stJ X hx hZ eT Ar (j := j) (x := x) (own_inb S hj) hg hs hd
  exact ⟨T', h', X', e', W, A2.wr W, st⟩
end OwnArr
def own_AR (Z : State) (h : Heap) (a : Addr) (C : String) (n : Nat) (vs : List Value) : Prop := ∃ c : Cell, Arr Z h a c (.object C) ∧ Ovr Z c.cls C ∧ c.slots.size = n ∧ n = vs.length ∧ ∀ j, j < n → c.slots[j]? = some (vs.getD j .null)
theorem own_AR.lt {Z : State} {h : Heap} {a : Addr} {C : String} {n : Nat} {vs : List Value} (F : own_AR Z h a C n vs) : a < h.size := by obtain ⟨c, A, -⟩ := F; exact A.lt
theorem own_AR.ext {Z : State} {h h' : Heap} {a : Addr} {C : String} {n : Nat} {vs : List Value} (F : own_AR Z h a C n vs) (E : Ext h h') : own_AR Z h' a C n vs := by obtain ⟨c, A, r⟩ := F; exact ⟨c, A.ext E, r⟩
theorem own_AR.other {Z : State} {h h' : Heap} {a b : Addr} {C : String} {n sl : Nat} {w : Value} {vs : List Value} (F : own_AR Z h a C n vs) (W : Wr h h' b sl w) (q : a ≠ b) : own_AR Z h' a C n vs := by obtain ⟨c, A, r⟩ := F; exact ⟨c, A.other W q, r⟩
theorem own_AR.keep {Z : State} {h h' : Heap} {a : Addr} {C : String} {n : Nat} {ws : List Addr} {vs : List Value} (F : own_AR Z h a C n vs) (K : Keep h h' ws) (q : a ∉ ws) : own_AR Z h' a C n vs := by obtain ⟨c, A, r⟩ := F; exact ⟨c, ⟨K.2.1 a c A.1 q, A.2⟩, r⟩
theorem own_AR.new {Z : State} {h : Heap} {a : Addr} {k : ClassId} {C : String} {z : Int32} {n : Nat} (A : Arr Z h a (newA k (.object C) z) (.object C)) (O : Ovr Z k C) (hn : z.toNatClampNeg = n) : own_AR Z h a C n (List.replicate n .null) := by
  refine ⟨_, A, O, by rw [sz_new]; exact hn, by rw [List.length_replicate], fun j hj => ?_⟩
  simp only [newA]
  rw [Array.getElem?_replicate, if_pos (by rw [hn]; exact hj)]
  show some Value.null = _
  rw [List.getD_eq_getElem?_getD, List.getElem?_replicate, if_pos hj]; rfl
section OwnArrR
variable {p : Program} {l : Launch} {e : Env} {R : Room} {s : State} {m : MethodId} {args : Array Value} {below : List Frame} {meth : Method} {c : Code} {T : State} {locs : List Loc} {cells slots : Nat} {Z : State} {h : Heap}
theorem own_ldR (X : Stand p l e R s m args below meth c T locs cells slots) (hx : p.tables.exec = Jvm.exec) (hZ : Z.Warmed39 s.vm) (eT : T.heap = h) {a : Addr} {C : String} {n : Nat} {vs : List Value} (A : own_AR Z h a C n vs) {j : Int32} {v : Value} (hj : ¬ j < 0 ∧ j.toNatClampNeg < n) (hv : vs.getD j.toNatClampNeg .null = v)
    {g : JFrame} (hg : g.method = m) {rest : List Value} (hs : g.stack = .int j :: .ref a :: rest) (hd : decode c.code g.pc = .ok (.aaload, 1)) (target : State) (k : Steps p.tables e below (T.setTop { g with pc := g.pc + 1, stack := v :: rest }) target) : Steps p.tables e below (T.setTop g) target := by
  obtain ⟨c', Ar, -, S, -, H⟩ := A
  exact X.aaload hx (by rw [eT]; exact Ar.1) (State.isArrayOf_alike hZ.alike Ar.2.1) rfl Ar.2.2 (own_inb S hj) (hv ▸ H _ hj.2) hg hs hd target k
theorem own_stR (X : Stand p l e R s m args below meth c T locs cells slots) (hx : p.tables.exec = Jvm.exec) (hZ : Z.Warmed39 s.vm) (eT : T.heap = h) {a y : Addr} {C : String} {n : Nat} {vs : List Value} (A : own_AR Z h a C n vs) {j : Int32} (hj : ¬ j < 0 ∧ j.toNatClampNeg < n) (I : Ins Z h y C true)
    {g : JFrame} (hg : g.method = m) {rest : List Value} (hs : g.stack = .ref y :: .int j :: .ref a :: rest) (hd : decode c.code g.pc = .ok (.aastore, 1)) :
    ∃ T' h', Stand p l e R s m args below meth c T' (locs ++ [⟨a, j.toNatClampNeg⟩]) cells slots ∧ T'.heap = h' ∧ Wr h h' a j.toNatClampNeg (.ref y) ∧ own_AR Z h' a C n (vs.set j.toNatClampNeg (.ref y)) ∧ ∀ target, Steps p.tables e below (T'.setTop { g with pc := g.pc + 1, stack := rest }) target → Steps p.tables e below (T.setTop g) target := by
  obtain ⟨c', Ar, O, S, L, H⟩ := A
  obtain ⟨T', h', X', e', W, st⟩ := stR X hx hZ eT Ar (j := j) (own_inb S hj) rfl (Sto.of Ar O I) hg hs hd
  refine ⟨T', h', X', e', W, ⟨_, Ar.same W, O, by rw [sz_set]; exact S, by rw [List.length_set]; exact L, fun i hi => ?_⟩, st⟩
  show (c'.slots.setIfInBounds _ _)[i]? = _
  rw [Array.getElem?_setIfInBounds, List.getD_eq_getElem?_getD, List.getElem?_set]
  by_cases q : j.toNatClampNeg = i
  · subst q
    rw [if_pos rfl, if_pos (by rw [S]; exact hi), if_pos rfl, if_pos (by rw [← L]; exact hi)]; rfl
  · rw [if_neg q, if_neg q, H i hi, List.getD_eq_getElem?_getD]
end OwnArrR
theorem own_fldI {s : State} {args : Array Value} {t : Term} {u : Addr} {C n d : String} {k : Int32} (et : t.eval args s none [] s = some (.ref u)) (h : (Jvm.Cond.eq (.field t C n d) (.int k)).value args s none s [] = some true) : Fld s s.heap u C n d (.int k) := by
  obtain ⟨x, y, ha, hb, -, -⟩ := cmp_v (Or.inl h)
  have hy : y = .int k := (Option.some.inj ((Term.int_eval k).symm.trans hb)).symm
  subst hy
  refine Fld.start ?_
  rw [← fld_at (o := none) (idx := []) et, ha]
  simp only [Cond.value, ha, hb] at h
  cases x <;> simp_all
theorem own_fldN {s : State} {args : Array Value} {t : Term} {u : Addr} {C n d : String} (et : t.eval args s none [] s = some (.ref u)) (h : (Jvm.Cond.eq (.field t C n d) .null).value args s none s [] = some true) : Fld s s.heap u C n d .null :=
  Fld.start (by rw [← fld_at (o := none) (idx := []) et]; exact null_v h)
theorem own_fldR {s : State} {args : Array Value} {t t' : Term} {u u' : Addr} {C n d : String} (et : t.eval args s none [] s = some (.ref u)) (et' : t'.eval args s none [] s = some (.ref u')) (h : (Jvm.Cond.eq (.field t C n d) t').value args s none s [] = some true) : Fld s s.heap u C n d (.ref u') := by
  obtain ⟨x, y, ha, hb, -, -⟩ := cmp_v (Or.inl h)
  have hy : y = .ref u' := Option.some.inj (hb.symm.trans et')
  subst hy
  refine Fld.start ?_
  rw [← fld_at (o := none) (idx := []) et, ha]
  simp only [Cond.value, ha, hb] at h
  cases x <;> simp_all
theorem own_neI {s : State} {args : Array Value} {t : Term} {u k : Int32} (et : t.eval args s none [] s = some (.int u)) (h : (Jvm.Cond.not (Jvm.Cond.eq t (.int k))).value args s none s [] = some true) : ¬ (u = k) := fun q => by
  have q2 := not_v h
  have hb : (Term.int k).eval args s none [] s = some (.int k) := Term.int_eval k
  subst q
  simp only [Cond.value, et, hb] at q2
  simp at q2
theorem d1_0 : decode prog_27_method_5_code 0 = .ok (.aload_n 0, 1) := by decide +kernel
theorem d1_1 : decode prog_27_method_5_code 1 = .ok (.aload_n 1, 1) := by decide +kernel
theorem d1_2 : decode prog_27_method_5_code 2 = .ok (.if_acmp .eq 17, 3) := by decide +kernel
theorem d1_5 : decode prog_27_method_5_code 5 = .ok (.aload_n 1, 1) := by decide +kernel
theorem d1_6 : decode prog_27_method_5_code 6 = .ok (.getstatic 10, 3) := by decide +kernel
theorem d1_9 : decode prog_27_method_5_code 9 = .ok (.if_acmp .ne 14, 3) := by decide +kernel
theorem d1_12 : decode prog_27_method_5_code 12 = .ok (.aload_n 0, 1) := by decide +kernel
theorem d1_13 : decode prog_27_method_5_code 13 = .ok (.getstatic 13, 3) := by decide +kernel
theorem d1_16 : decode prog_27_method_5_code 16 = .ok (.if_acmp .eq 7, 3) := by decide +kernel
theorem d1_19 : decode prog_27_method_5_code 19 = .ok (.iconst 1, 1) := by decide +kernel
theorem d1_20 : decode prog_27_method_5_code 20 = .ok (.goto 4, 3) := by decide +kernel
theorem d1_23 : decode prog_27_method_5_code 23 = .ok (.iconst 0, 1) := by decide +kernel
theorem d1_24 : decode prog_27_method_5_code 24 = .ok (.ireturn, 1) := by decide +kernel
theorem ef_1 (m : MethodId) (r0 : Addr) (r1 : Addr) : entryFrame m #[(.ref r0), (.ref r1)] 2 = mkF m 0 #[.val (.ref r0), .val (.ref r1)] [] := by (first | (simp [entryFrame, mkF, argsToLocals, Value.category]; done) | rfl)
def own_r1 (r0 : Addr) (r1 : Addr) (u2 : Addr) (u3 : Addr) : Int32 := (if r0 = r1 then (1 : Int32) else (if r1 = u2 then (if r0 = u3 then (0 : Int32) else (1 : Int32)) else (0 : Int32)))
theorem own_r1_b (r0 : Addr) (r1 : Addr) (u2 : Addr) (u3 : Addr) : own_r1 r0 r1 u2 u3 = 0 ∨ own_r1 r0 r1 u2 u3 = 1 := by unfold own_r1; exact (own_ite01 (Or.inr rfl) (own_ite01 (own_ite01 (Or.inl rfl) (Or.inr rfl)) (Or.inl rfl)))
theorem pn0 : plainName "com/example/swapgraph/swapgraph/Network$Shape" = true := by first | (simp [plainName, overriddenIn]; done) | decide +kernel
def Q1 (Z : State) (r0 : Addr) (r1 : Addr) (u2 : Addr) (u3 : Addr) (h0 : Heap) (n0 : Nat) (v : Option Value) (h : Heap) (L : List Loc) : Prop := v = some (.int (own_r1 r0 r1 u2 u3)) ∧ Fr n0 L ∧ h = h0
set_option maxRecDepth 65536 in
set_option maxHeartbeats 40000000 in
theorem rm1 (l : Launch) (Z : State) (a0 : Array Value) (hw : ∀ d ∈ tables_1, d.before a0 Z = true) (ws : List Jvm.Cond) (r0 : Addr) (r1 : Addr) (u2 : Addr) (u3 : Addr) (h0 : Heap) (n0 : Nat) (Z0 : n0 ≤ h0.size) (S_TREE : Sta Z h0 "com/example/swapgraph/swapgraph/Network$Shape" "TREE" "Lcom/example/swapgraph/swapgraph/Network$Shape;" (.ref u2)) (S_GENERAL : Sta Z h0 "com/example/swapgraph/swapgraph/Network$Shape" "GENERAL" "Lcom/example/swapgraph/swapgraph/Network$Shape;" (.ref u3)) :
    MetFree l (⟨"com/example/swapgraph/swapgraph/Network$Shape", "within", "(Lcom/example/swapgraph/swapgraph/Network$Shape;)Z"⟩ : MethodName) (head1 (Jvm.Cond.code (⟨"com/example/swapgraph/swapgraph/Network$Shape", "within", "(Lcom/example/swapgraph/swapgraph/Network$Shape;)Z"⟩ : MethodName) prog_27_method_5_code 2 (some .boolean) :: ws) ({ frames := 0, cells := 0, slots := 0, locals := 0 } : Room)) (fun a U => a = #[(.ref r0), (.ref r1)] ∧ Z.Warmed39 U.vm ∧ U.heap = h0) (fun _ _ _ _ _ => True) (fun _ U o U' => ∃ v L, o = .returned v ∧ Q1 Z r0 r1 u2 u3 h0 n0 v U'.heap L ∧ FrameEnd U o U' L ({ frames := 0, cells := 0, slots := 0, locals := 0 } : Room).cells ({ frames := 0, cells := 0, slots := 0, locals := 0 } : Room).slots) := by
  refine MetFree.of_bodySF (plainFor_of_name pn0) hisR ?_
  intro p e s m args below meth c s₁ Bd hml0 hP hK
  obtain ⟨rfl, hZ, hh⟩ := hP
  have hx := Bd.exec
  have hby := Bd.bytes
  have hml : c.maxLocals = 2 := hml0
  have hown : s.vm.findClass "com/example/swapgraph/swapgraph/Network$Shape" = some m.cls := findClass_of_methodNamed Bd.named
  have hnm := (name_of_methodNamed Bd.named Bd.method).1
  have X0 : Stand p l e ({ frames := 0, cells := 0, slots := 0, locals := 0 } : Room) s m #[(.ref r0), (.ref r1)] below meth c s₁ [] 0 0 := Stand.of_body Bd
  have e0 : s₁.heap = h0 := by rw [← hh, Bd.state]; rfl
  have N0 := Fr.nil n0
  have K0 : Keep h0 h0 [] := Keep.refl h0 _
  show own_Go p e below s (Q1 Z r0 r1 u2 u3 h0 n0) ({ frames := 0, cells := 0, slots := 0, locals := 0 } : Room).cells ({ frames := 0, cells := 0, slots := 0, locals := 0 } : Room).slots (s₁.setTop (entryFrame m #[(.ref r0), (.ref r1)] 2))
  refine own_go (fun t k => castTop (ef_1 m r0 r1) k) ?_
  obtain ⟨v4, hv4⟩ : ∃ z : Int32, z = (if r0 = u3 then (0 : Int32) else (1 : Int32)) := ⟨_, rfl⟩
  obtain ⟨v5, hv5⟩ : ∃ z : Int32, z = (if r1 = u2 then v4 else (0 : Int32)) := ⟨_, rfl⟩
  obtain ⟨v6, hv6⟩ : ∃ z : Int32, z = (if r0 = r1 then (1 : Int32) else v5) := ⟨_, rfl⟩
  obtain ⟨T111, lc111, X111, N111, e111, st111⟩ := own_mrg (n0 := n0) (h := h0) (g := (mkF m 2 #[.val (.ref r0), .val (.ref r1)] [(.ref r1), (.ref r0)])) (g' := (mkF m 24 #[.val (.ref r0), .val (.ref r1)] [(.int v6)])) X0 (by
    by_cases hc2_1 : r0 = r1
    · have hgo101 : ∀ t, Steps p.tables e below (s₁.setTop (mkF m 24 #[.val (.ref r0), .val (.ref r1)] [(.int (1 : Int32))])) t → Steps p.tables e below (s₁.setTop (mkF m 2 #[.val (.ref r0), .val (.ref r1)] [(.ref r1), (.ref r0)])) t := by
        intro t kt
        show Steps p.tables e below (s₁.setTop (mkF m 2 #[.val (.ref r0), .val (.ref r1)] [(.ref r1), (.ref r0)])) _
        refine Jvm.RoadKit.acmp (g := (mkF m 2 #[.val (.ref r0), .val (.ref r1)] [(.ref r1), (.ref r0)])) X0 hx rfl rfl rfl (pc0 := 2) (pc' := 19) (same := true) rfl (hb hby d1_2) rfl (decide_eq_true (congrArg Value.ref hc2_1)) (by decide) (by decide) ?_
        show Steps p.tables e below (s₁.setTop (mkF m 19 #[.val (.ref r0), .val (.ref r1)] [])) _
        refine XS.iconst X0.here hx rfl (hb hby d1_19) ?_
        show Steps p.tables e below (s₁.setTop (mkF m 20 #[.val (.ref r0), .val (.ref r1)] [(.int (1 : Int32))])) _
        refine XS.goto X0.here hx rfl (pc0 := 20) (pc' := 24) rfl (hb hby d1_20) (by decide) (by decide) ?_
        exact kt
      refine own_arm hgo101 ?_
      exact own_armEnd X0 N0 e0 (by rw [hv6.trans (if_pos hc2_1)])
    · obtain ⟨T102, X102, e102, st102⟩ := getS2 X0 hx hZ hown (host := "") (Or.inl (hw _ (List.mem_of_getElem? (i := 18) rfl))) Via.refl e0 S_TREE (g := (mkF m 6 #[.val (.ref r0), .val (.ref r1)] [(.ref r1)])) rfl (hb hby d1_6)
      obtain ⟨T109, lc109, X109, N109, e109, st109⟩ := own_mrg (n0 := n0) (h := h0) (g := (mkF m 9 #[.val (.ref r0), .val (.ref r1)] [(.ref u2), (.ref r1)])) (g' := (mkF m 24 #[.val (.ref r0), .val (.ref r1)] [(.int v5)])) X102 (by
        by_cases hc9_2 : r1 = u2
        · obtain ⟨T103, X103, e103, st103⟩ := getS2 X102 hx hZ hown (host := "") (Or.inl (hw _ (List.mem_of_getElem? (i := 19) rfl))) Via.refl e102 S_GENERAL (g := (mkF m 13 #[.val (.ref r0), .val (.ref r1)] [(.ref r0)])) rfl (hb hby d1_13)
          obtain ⟨T106, lc106, X106, N106, e106, st106⟩ := own_mrg (n0 := n0) (h := h0) (g := (mkF m 16 #[.val (.ref r0), .val (.ref r1)] [(.ref u3), (.ref r0)])) (g' := (mkF m 24 #[.val (.ref r0), .val (.ref r1)] [(.int v4)])) X103 (by
            by_cases hc16_3 : r0 = u3
            · have hgo104 : ∀ t, Steps p.tables e below (T103.setTop (mkF m 24 #[.val (.ref r0), .val (.ref r1)] [(.int (0 : Int32))])) t → Steps p.tables e below (T103.setTop (mkF m 16 #[.val (.ref r0), .val (.ref r1)] [(.ref u3), (.ref r0)])) t := by
                intro t kt
                show Steps p.tables e below (T103.setTop (mkF m 16 #[.val (.ref r0), .val (.ref r1)] [(.ref u3), (.ref r0)])) _
                refine Jvm.RoadKit.acmp (g := (mkF m 16 #[.val (.ref r0), .val (.ref r1)] [(.ref u3), (.ref r0)])) X103 hx rfl rfl rfl (pc0 := 16) (pc' := 23) (same := true) rfl (hb hby d1_16) rfl (decide_eq_true (congrArg Value.ref hc16_3)) (by decide) (by decide) ?_
                show Steps p.tables e below (T103.setTop (mkF m 23 #[.val (.ref r0), .val (.ref r1)] [])) _
                refine XS.iconst X103.here hx rfl (hb hby d1_23) ?_
                exact kt
              refine own_arm hgo104 ?_
              exact own_armEnd X103 N0 e103 (by rw [hv4.trans (if_pos hc16_3)])
            · have hgo105 : ∀ t, Steps p.tables e below (T103.setTop (mkF m 24 #[.val (.ref r0), .val (.ref r1)] [(.int (1 : Int32))])) t → Steps p.tables e below (T103.setTop (mkF m 16 #[.val (.ref r0), .val (.ref r1)] [(.ref u3), (.ref r0)])) t := by
                intro t kt
                show Steps p.tables e below (T103.setTop (mkF m 16 #[.val (.ref r0), .val (.ref r1)] [(.ref u3), (.ref r0)])) _
                refine Jvm.RoadKit.acmp (g := (mkF m 16 #[.val (.ref r0), .val (.ref r1)] [(.ref u3), (.ref r0)])) X103 hx rfl rfl rfl (pc0 := 16) (pc' := 19) (same := false) rfl (hb hby d1_16) rfl (decide_eq_false fun q => hc16_3 (Value.ref.inj q)) (by decide) (by decide) ?_
                show Steps p.tables e below (T103.setTop (mkF m 19 #[.val (.ref r0), .val (.ref r1)] [])) _
                refine XS.iconst X103.here hx rfl (hb hby d1_19) ?_
                show Steps p.tables e below (T103.setTop (mkF m 20 #[.val (.ref r0), .val (.ref r1)] [(.int (1 : Int32))])) _
                refine XS.goto X103.here hx rfl (pc0 := 20) (pc' := 24) rfl (hb hby d1_20) (by decide) (by decide) ?_
                exact kt
              refine own_arm hgo105 ?_
              exact own_armEnd X103 N0 e103 (by rw [hv4.trans (if_neg hc16_3)]))
          have hgo107 : ∀ t, Steps p.tables e below (T106.setTop (mkF m 24 #[.val (.ref r0), .val (.ref r1)] [(.int v4)])) t → Steps p.tables e below (T102.setTop (mkF m 9 #[.val (.ref r0), .val (.ref r1)] [(.ref u2), (.ref r1)])) t := by
            intro t kt
            show Steps p.tables e below (T102.setTop (mkF m 9 #[.val (.ref r0), .val (.ref r1)] [(.ref u2), (.ref r1)])) _
            refine Jvm.RoadKit.acmp (g := (mkF m 9 #[.val (.ref r0), .val (.ref r1)] [(.ref u2), (.ref r1)])) X102 hx rfl rfl rfl (pc0 := 9) (pc' := 12) (same := true) rfl (hb hby d1_9) rfl (decide_eq_true (congrArg Value.ref hc9_2)) (by decide) (by decide) ?_
            show Steps p.tables e below (T102.setTop (mkF m 12 #[.val (.ref r0), .val (.ref r1)] [])) _
            refine XS.aloadN X102.here hx rfl (hb hby d1_12) rfl rfl ?_
            show Steps p.tables e below (T102.setTop (mkF m 13 #[.val (.ref r0), .val (.ref r1)] [(.ref r0)])) _
            refine st103 _ ?_
            show Steps p.tables e below (T103.setTop (mkF m 16 #[.val (.ref r0), .val (.ref r1)] [(.ref u3), (.ref r0)])) _
            refine st106 _ ?_
            exact kt
          refine own_arm hgo107 ?_
          exact own_armEnd X106 N106 e106 (by rw [hv5.trans (if_pos hc9_2)])
        · have hgo108 : ∀ t, Steps p.tables e below (T102.setTop (mkF m 24 #[.val (.ref r0), .val (.ref r1)] [(.int (0 : Int32))])) t → Steps p.tables e below (T102.setTop (mkF m 9 #[.val (.ref r0), .val (.ref r1)] [(.ref u2), (.ref r1)])) t := by
            intro t kt
            show Steps p.tables e below (T102.setTop (mkF m 9 #[.val (.ref r0), .val (.ref r1)] [(.ref u2), (.ref r1)])) _
            refine Jvm.RoadKit.acmp (g := (mkF m 9 #[.val (.ref r0), .val (.ref r1)] [(.ref u2), (.ref r1)])) X102 hx rfl rfl rfl (pc0 := 9) (pc' := 23) (same := false) rfl (hb hby d1_9) rfl (decide_eq_false fun q => hc9_2 (Value.ref.inj q)) (by decide) (by decide) ?_
            show Steps p.tables e below (T102.setTop (mkF m 23 #[.val (.ref r0), .val (.ref r1)] [])) _
            refine XS.iconst X102.here hx rfl (hb hby d1_23) ?_
            exact kt
          refine own_arm hgo108 ?_
          exact own_armEnd X102 N0 e102 (by rw [hv5.trans (if_neg hc9_2)]))
      have hgo110 : ∀ t, Steps p.tables e below (T109.setTop (mkF m 24 #[.val (.ref r0), .val (.ref r1)] [(.int v5)])) t → Steps p.tables e below (s₁.setTop (mkF m 2 #[.val (.ref r0), .val (.ref r1)] [(.ref r1), (.ref r0)])) t := by
        intro t kt
        show Steps p.tables e below (s₁.setTop (mkF m 2 #[.val (.ref r0), .val (.ref r1)] [(.ref r1), (.ref r0)])) _
        refine Jvm.RoadKit.acmp (g := (mkF m 2 #[.val (.ref r0), .val (.ref r1)] [(.ref r1), (.ref r0)])) X0 hx rfl rfl rfl (pc0 := 2) (pc' := 5) (same := false) rfl (hb hby d1_2) rfl (decide_eq_false fun q => hc2_1 (Value.ref.inj q)) (by decide) (by decide) ?_
        show Steps p.tables e below (s₁.setTop (mkF m 5 #[.val (.ref r0), .val (.ref r1)] [])) _
        refine XS.aloadN X0.here hx rfl (hb hby d1_5) rfl rfl ?_
        show Steps p.tables e below (s₁.setTop (mkF m 6 #[.val (.ref r0), .val (.ref r1)] [(.ref r1)])) _
        refine st102 _ ?_
        show Steps p.tables e below (T102.setTop (mkF m 9 #[.val (.ref r0), .val (.ref r1)] [(.ref u2), (.ref r1)])) _
        refine st109 _ ?_
        exact kt
      refine own_arm hgo110 ?_
      exact own_armEnd X109 N109 e109 (by rw [hv6.trans (if_neg hc2_1)]))
  have hgo112 : ∀ t, Steps p.tables e below (T111.setTop (mkF m 24 #[.val (.ref r0), .val (.ref r1)] [(.int v6)])) t → Steps p.tables e below (s₁.setTop (mkF m 0 #[.val (.ref r0), .val (.ref r1)] [])) t := by
    intro t kt
    show Steps p.tables e below (s₁.setTop (mkF m 0 #[.val (.ref r0), .val (.ref r1)] [])) _
    refine XS.aloadN X0.here hx rfl (hb hby d1_0) rfl rfl ?_
    show Steps p.tables e below (s₁.setTop (mkF m 1 #[.val (.ref r0), .val (.ref r1)] [(.ref r0)])) _
    refine XS.aloadN X0.here hx rfl (hb hby d1_1) rfl rfl ?_
    show Steps p.tables e below (s₁.setTop (mkF m 2 #[.val (.ref r0), .val (.ref r1)] [(.ref r1), (.ref r0)])) _
    refine st111 _ ?_
    exact kt
  refine own_go hgo112 ?_
  exact own_retZ X111 hx Bd.returns Bd.notSynchronized (hb hby d1_24) (by decide) (by decide) (by rw [hv6]; exact (own_ite01 (Or.inr rfl) (by rw [hv5]; exact (own_ite01 (by rw [hv4]; exact (own_ite01 (Or.inl rfl) (Or.inr rfl))) (Or.inl rfl))))) (by rw [e111]; exact ⟨(by subst hv6 hv5 hv4; rw [own_r1]), N111, rfl⟩)
theorem own_ti {x : Int32} (h : x.toBitVec.toNat < 2147483648) : x.toInt = (x.toBitVec.toNat : Int) := by
  show x.toBitVec.toInt = _
  rw [BitVec.toInt_eq_toNat_cond, if_pos (by omega)]
theorem own_tn {x : Int32} (h : 0 ≤ x.toInt) : x.toInt = (x.toBitVec.toNat : Int) ∧ x.toBitVec.toNat < 2147483648 := by
  have e : x.toInt = x.toBitVec.toInt := rfl
  have c := BitVec.toInt_eq_toNat_cond x.toBitVec
  have l := x.toBitVec.isLt
  rw [e] at h ⊢
  rw [c] at h ⊢
  split at h
  · rename_i q
    rw [if_pos q]; omega
  · omega
theorem own_andn (x y : Int32) : (x &&& y).toBitVec.toNat = x.toBitVec.toNat &&& y.toBitVec.toNat := by rw [Int32.toBitVec_and, BitVec.toNat_and]
theorem own_orn (x y : Int32) : (x ||| y).toBitVec.toNat = x.toBitVec.toNat ||| y.toBitVec.toNat := by rw [Int32.toBitVec_or, BitVec.toNat_or]
theorem own_shln {x k : Int32} {n : Nat} (hk : (k.toBitVec.smod 32).toNat = n) (h : x.toBitVec.toNat * 2 ^ n < 2 ^ 32) : (x <<< k).toBitVec.toNat = x.toBitVec.toNat * 2 ^ n := by
  rw [Int32.toBitVec_shiftLeft, BitVec.shiftLeft_eq', BitVec.toNat_shiftLeft, hk, Nat.shiftLeft_eq, Nat.mod_eq_of_lt h]
theorem own_mask {x m : Int32} {k : Nat} (hm : m.toBitVec.toNat = 2 ^ k - 1) : (x &&& m).toBitVec.toNat = x.toBitVec.toNat % 2 ^ k := by
  rw [own_andn, hm, Nat.and_two_pow_sub_one_eq_mod]
theorem own_oradd {a b k : Nat} (hb : b < 2 ^ k) : (a * 2 ^ k) ||| b = a * 2 ^ k + b := by
  rw [Nat.mul_comm, ← Nat.two_pow_add_eq_or_of_lt hb]

theorem own_is3 {p v : Int32} (h : v = (p &&& (3 : Int32))) (h0 : ¬ (v = 0)) (h1 : ¬ (v = 1)) (h2 : ¬ (v = 2)) : v = 3 := by
  have e := own_mask (x := p) (m := 3) (k := 2) rfl
  rw [← h] at e
  have t := own_ti (x := v) (by omega)
  simp only [← Int32.toInt_inj, Int32.reduceToInt] at *
  omega
theorem pd1 : parseMethodDescriptor "(Lcom/example/swapgraph/swapgraph/Network$Shape;)Z" = some ⟨[(.object "com/example/swapgraph/swapgraph/Network$Shape")], some .boolean⟩ := by decide +kernel
theorem ef_0 (m : MethodId) (p0 : Int32) (p1 : Int32) : entryFrame m #[(.int p0), (.int p1)] maxLocals = mkF m 0 #[.val (.int p0), .val (.int p1), .unset, .unset, .unset, .unset] [] := by (first | (simp [entryFrame, mkF, argsToLocals, Value.category, maxLocals]; done) | rfl)
set_option maxRecDepth 65536 in
theorem own_leaf0 {p0 p1 v1 v2 v6 v8 : Int32} {u_Network_Shape_PATH u_Network_Shape_STAR u_Network_Shape_TREE u_Network_Shape_GENERAL : Addr} (hv1 : v1 = (p0 &&& (3 : Int32))) (hv2 : v2 = (p1 &&& (3 : Int32))) (hv6 : v6 = (if (((33893 : Int32) >>> (((v1 * (4 : Int32)) + v2) &&& 31)) &&& (1 : Int32)) = (0 : Int32) then (0 : Int32) else (1 : Int32))) (hv8 : v8 = (if (own_r1 u_Network_Shape_PATH u_Network_Shape_PATH u_Network_Shape_TREE u_Network_Shape_GENERAL) = v6 then (1 : Int32) else (0 : Int32))) (hs38_3 : v1 = (0 : Int32)) (hs40_4 : v2 = (0 : Int32)) (hne01 : ¬ (u_Network_Shape_PATH = u_Network_Shape_STAR)) (hne02 : ¬ (u_Network_Shape_PATH = u_Network_Shape_TREE)) (hne03 : ¬ (u_Network_Shape_PATH = u_Network_Shape_GENERAL)) (hne10 : ¬ (u_Network_Shape_STAR = u_Network_Shape_PATH)) (hne12 : ¬ (u_Network_Shape_STAR = u_Network_Shape_TREE)) (hne13 : ¬ (u_Network_Shape_STAR = u_Network_Shape_GENERAL)) (hne20 : ¬ (u_Network_Shape_TREE = u_Network_Shape_PATH)) (hne21 : ¬ (u_Network_Shape_TREE = u_Network_Shape_STAR)) (hne23 : ¬ (u_Network_Shape_TREE = u_Network_Shape_GENERAL)) (hne30 : ¬ (u_Network_Shape_GENERAL = u_Network_Shape_PATH)) (hne31 : ¬ (u_Network_Shape_GENERAL = u_Network_Shape_STAR)) (hne32 : ¬ (u_Network_Shape_GENERAL = u_Network_Shape_TREE)) : v8 = 1 := by
  have e : v6 = 1 := by rw [hv6, hs38_3, hs40_4]; decide
  rw [hv8, e, if_pos]
  rw [own_r1]
  simp [hne01, hne02, hne03, hne10, hne12, hne13, hne20, hne21, hne23, hne30, hne31, hne32]
set_option maxRecDepth 65536 in
theorem own_leaf1 {p0 p1 v1 v2 v11 v13 : Int32} {u_Network_Shape_PATH u_Network_Shape_STAR u_Network_Shape_TREE u_Network_Shape_GENERAL : Addr} (hv1 : v1 = (p0 &&& (3 : Int32))) (hv2 : v2 = (p1 &&& (3 : Int32))) (hv11 : v11 = (if (((33893 : Int32) >>> (((v1 * (4 : Int32)) + v2) &&& 31)) &&& (1 : Int32)) = (0 : Int32) then (0 : Int32) else (1 : Int32))) (hv13 : v13 = (if (own_r1 u_Network_Shape_PATH u_Network_Shape_STAR u_Network_Shape_TREE u_Network_Shape_GENERAL) = v11 then (1 : Int32) else (0 : Int32))) (hs38_3 : v1 = (0 : Int32)) (hs40_4 : ¬ (v2 = (0 : Int32))) (hs40_9 : v2 = (1 : Int32)) (hne01 : ¬ (u_Network_Shape_PATH = u_Network_Shape_STAR)) (hne02 : ¬ (u_Network_Shape_PATH = u_Network_Shape_TREE)) (hne03 : ¬ (u_Network_Shape_PATH = u_Network_Shape_GENERAL)) (hne10 : ¬ (u_Network_Shape_STAR = u_Network_Shape_PATH)) (hne12 : ¬ (u_Network_Shape_STAR = u_Network_Shape_TREE)) (hne13 : ¬ (u_Network_Shape_STAR = u_Network_Shape_GENERAL)) (hne20 : ¬ (u_Network_Shape_TREE = u_Network_Shape_PATH)) (hne21 : ¬ (u_Network_Shape_TREE = u_Network_Shape_STAR)) (hne23 : ¬ (u_Network_Shape_TREE = u_Network_Shape_GENERAL)) (hne30 : ¬ (u_Network_Shape_GENERAL = u_Network_Shape_PATH)) (hne31 : ¬ (u_Network_Shape_GENERAL = u_Network_Shape_STAR)) (hne32 : ¬ (u_Network_Shape_GENERAL = u_Network_Shape_TREE)) : v13 = 1 := by
  have e : v11 = 0 := by rw [hv11, hs38_3, hs40_9]; decide
  rw [hv13, e, if_pos]
  rw [own_r1]
  simp [hne01, hne02, hne03, hne10, hne12, hne13, hne20, hne21, hne23, hne30, hne31, hne32]
set_option maxRecDepth 65536 in
theorem own_leaf2 {p0 p1 v1 v2 v16 v18 : Int32} {u_Network_Shape_PATH u_Network_Shape_STAR u_Network_Shape_TREE u_Network_Shape_GENERAL : Addr} (hv1 : v1 = (p0 &&& (3 : Int32))) (hv2 : v2 = (p1 &&& (3 : Int32))) (hv16 : v16 = (if (((33893 : Int32) >>> (((v1 * (4 : Int32)) + v2) &&& 31)) &&& (1 : Int32)) = (0 : Int32) then (0 : Int32) else (1 : Int32))) (hv18 : v18 = (if (own_r1 u_Network_Shape_PATH u_Network_Shape_TREE u_Network_Shape_TREE u_Network_Shape_GENERAL) = v16 then (1 : Int32) else (0 : Int32))) (hs38_3 : v1 = (0 : Int32)) (hs40_4 : ¬ (v2 = (0 : Int32))) (hs40_9 : ¬ (v2 = (1 : Int32))) (hs40_14 : v2 = (2 : Int32)) (hne01 : ¬ (u_Network_Shape_PATH = u_Network_Shape_STAR)) (hne02 : ¬ (u_Network_Shape_PATH = u_Network_Shape_TREE)) (hne03 : ¬ (u_Network_Shape_PATH = u_Network_Shape_GENERAL)) (hne10 : ¬ (u_Network_Shape_STAR = u_Network_Shape_PATH)) (hne12 : ¬ (u_Network_Shape_STAR = u_Network_Shape_TREE)) (hne13 : ¬ (u_Network_Shape_STAR = u_Network_Shape_GENERAL)) (hne20 : ¬ (u_Network_Shape_TREE = u_Network_Shape_PATH)) (hne21 : ¬ (u_Network_Shape_TREE = u_Network_Shape_STAR)) (hne23 : ¬ (u_Network_Shape_TREE = u_Network_Shape_GENERAL)) (hne30 : ¬ (u_Network_Shape_GENERAL = u_Network_Shape_PATH)) (hne31 : ¬ (u_Network_Shape_GENERAL = u_Network_Shape_STAR)) (hne32 : ¬ (u_Network_Shape_GENERAL = u_Network_Shape_TREE)) : v18 = 1 := by
  have e : v16 = 1 := by rw [hv16, hs38_3, hs40_14]; decide
  rw [hv18, e, if_pos]
  rw [own_r1]
  simp [hne01, hne02, hne03, hne10, hne12, hne13, hne20, hne21, hne23, hne30, hne31, hne32]
set_option maxRecDepth 65536 in
theorem own_leaf3 {p0 p1 v1 v2 v21 v23 : Int32} {u_Network_Shape_PATH u_Network_Shape_STAR u_Network_Shape_TREE u_Network_Shape_GENERAL : Addr} (hv1 : v1 = (p0 &&& (3 : Int32))) (hv2 : v2 = (p1 &&& (3 : Int32))) (hv21 : v21 = (if (((33893 : Int32) >>> (((v1 * (4 : Int32)) + v2) &&& 31)) &&& (1 : Int32)) = (0 : Int32) then (0 : Int32) else (1 : Int32))) (hv23 : v23 = (if (own_r1 u_Network_Shape_PATH u_Network_Shape_GENERAL u_Network_Shape_TREE u_Network_Shape_GENERAL) = v21 then (1 : Int32) else (0 : Int32))) (hs38_3 : v1 = (0 : Int32)) (hs40_4 : ¬ (v2 = (0 : Int32))) (hs40_9 : ¬ (v2 = (1 : Int32))) (hs40_14 : ¬ (v2 = (2 : Int32))) (hs40_19 : v2 = (3 : Int32)) (hne01 : ¬ (u_Network_Shape_PATH = u_Network_Shape_STAR)) (hne02 : ¬ (u_Network_Shape_PATH = u_Network_Shape_TREE)) (hne03 : ¬ (u_Network_Shape_PATH = u_Network_Shape_GENERAL)) (hne10 : ¬ (u_Network_Shape_STAR = u_Network_Shape_PATH)) (hne12 : ¬ (u_Network_Shape_STAR = u_Network_Shape_TREE)) (hne13 : ¬ (u_Network_Shape_STAR = u_Network_Shape_GENERAL)) (hne20 : ¬ (u_Network_Shape_TREE = u_Network_Shape_PATH)) (hne21 : ¬ (u_Network_Shape_TREE = u_Network_Shape_STAR)) (hne23 : ¬ (u_Network_Shape_TREE = u_Network_Shape_GENERAL)) (hne30 : ¬ (u_Network_Shape_GENERAL = u_Network_Shape_PATH)) (hne31 : ¬ (u_Network_Shape_GENERAL = u_Network_Shape_STAR)) (hne32 : ¬ (u_Network_Shape_GENERAL = u_Network_Shape_TREE)) : v23 = 1 := by
  have e : v21 = 0 := by rw [hv21, hs38_3, hs40_19]; decide
  rw [hv23, e, if_pos]
  rw [own_r1]
  simp [hne01, hne02, hne03, hne10, hne12, hne13, hne20, hne21, hne23, hne30, hne31, hne32]
set_option maxRecDepth 65536 in
theorem own_leaf4 {p0 p1 v1 v2 v27 v29 : Int32} {u_Network_Shape_PATH u_Network_Shape_STAR u_Network_Shape_TREE u_Network_Shape_GENERAL : Addr} (hv1 : v1 = (p0 &&& (3 : Int32))) (hv2 : v2 = (p1 &&& (3 : Int32))) (hv27 : v27 = (if (((33893 : Int32) >>> (((v1 * (4 : Int32)) + v2) &&& 31)) &&& (1 : Int32)) = (0 : Int32) then (0 : Int32) else (1 : Int32))) (hv29 : v29 = (if (own_r1 u_Network_Shape_STAR u_Network_Shape_PATH u_Network_Shape_TREE u_Network_Shape_GENERAL) = v27 then (1 : Int32) else (0 : Int32))) (hs38_3 : ¬ (v1 = (0 : Int32))) (hs38_24 : v1 = (1 : Int32)) (hs40_25 : v2 = (0 : Int32)) (hne01 : ¬ (u_Network_Shape_PATH = u_Network_Shape_STAR)) (hne02 : ¬ (u_Network_Shape_PATH = u_Network_Shape_TREE)) (hne03 : ¬ (u_Network_Shape_PATH = u_Network_Shape_GENERAL)) (hne10 : ¬ (u_Network_Shape_STAR = u_Network_Shape_PATH)) (hne12 : ¬ (u_Network_Shape_STAR = u_Network_Shape_TREE)) (hne13 : ¬ (u_Network_Shape_STAR = u_Network_Shape_GENERAL)) (hne20 : ¬ (u_Network_Shape_TREE = u_Network_Shape_PATH)) (hne21 : ¬ (u_Network_Shape_TREE = u_Network_Shape_STAR)) (hne23 : ¬ (u_Network_Shape_TREE = u_Network_Shape_GENERAL)) (hne30 : ¬ (u_Network_Shape_GENERAL = u_Network_Shape_PATH)) (hne31 : ¬ (u_Network_Shape_GENERAL = u_Network_Shape_STAR)) (hne32 : ¬ (u_Network_Shape_GENERAL = u_Network_Shape_TREE)) : v29 = 1 := by
  have e : v27 = 0 := by rw [hv27, hs38_24, hs40_25]; decide
  rw [hv29, e, if_pos]
  rw [own_r1]
  simp [hne01, hne02, hne03, hne10, hne12, hne13, hne20, hne21, hne23, hne30, hne31, hne32]
set_option maxRecDepth 65536 in
theorem own_leaf5 {p0 p1 v1 v2 v32 v34 : Int32} {u_Network_Shape_PATH u_Network_Shape_STAR u_Network_Shape_TREE u_Network_Shape_GENERAL : Addr} (hv1 : v1 = (p0 &&& (3 : Int32))) (hv2 : v2 = (p1 &&& (3 : Int32))) (hv32 : v32 = (if (((33893 : Int32) >>> (((v1 * (4 : Int32)) + v2) &&& 31)) &&& (1 : Int32)) = (0 : Int32) then (0 : Int32) else (1 : Int32))) (hv34 : v34 = (if (own_r1 u_Network_Shape_STAR u_Network_Shape_STAR u_Network_Shape_TREE u_Network_Shape_GENERAL) = v32 then (1 : Int32) else (0 : Int32))) (hs38_3 : ¬ (v1 = (0 : Int32))) (hs38_24 : v1 = (1 : Int32)) (hs40_25 : ¬ (v2 = (0 : Int32))) (hs40_30 : v2 = (1 : Int32)) (hne01 : ¬ (u_Network_Shape_PATH = u_Network_Shape_STAR)) (hne02 : ¬ (u_Network_Shape_PATH = u_Network_Shape_TREE)) (hne03 : ¬ (u_Network_Shape_PATH = u_Network_Shape_GENERAL)) (hne10 : ¬ (u_Network_Shape_STAR = u_Network_Shape_PATH)) (hne12 : ¬ (u_Network_Shape_STAR = u_Network_Shape_TREE)) (hne13 : ¬ (u_Network_Shape_STAR = u_Network_Shape_GENERAL)) (hne20 : ¬ (u_Network_Shape_TREE = u_Network_Shape_PATH)) (hne21 : ¬ (u_Network_Shape_TREE = u_Network_Shape_STAR)) (hne23 : ¬ (u_Network_Shape_TREE = u_Network_Shape_GENERAL)) (hne30 : ¬ (u_Network_Shape_GENERAL = u_Network_Shape_PATH)) (hne31 : ¬ (u_Network_Shape_GENERAL = u_Network_Shape_STAR)) (hne32 : ¬ (u_Network_Shape_GENERAL = u_Network_Shape_TREE)) : v34 = 1 := by
  have e : v32 = 1 := by rw [hv32, hs38_24, hs40_30]; decide
  rw [hv34, e, if_pos]
  rw [own_r1]
  simp [hne01, hne02, hne03, hne10, hne12, hne13, hne20, hne21, hne23, hne30, hne31, hne32]
set_option maxRecDepth 65536 in
theorem own_leaf6 {p0 p1 v1 v2 v37 v39 : Int32} {u_Network_Shape_PATH u_Network_Shape_STAR u_Network_Shape_TREE u_Network_Shape_GENERAL : Addr} (hv1 : v1 = (p0 &&& (3 : Int32))) (hv2 : v2 = (p1 &&& (3 : Int32))) (hv37 : v37 = (if (((33893 : Int32) >>> (((v1 * (4 : Int32)) + v2) &&& 31)) &&& (1 : Int32)) = (0 : Int32) then (0 : Int32) else (1 : Int32))) (hv39 : v39 = (if (own_r1 u_Network_Shape_STAR u_Network_Shape_TREE u_Network_Shape_TREE u_Network_Shape_GENERAL) = v37 then (1 : Int32) else (0 : Int32))) (hs38_3 : ¬ (v1 = (0 : Int32))) (hs38_24 : v1 = (1 : Int32)) (hs40_25 : ¬ (v2 = (0 : Int32))) (hs40_30 : ¬ (v2 = (1 : Int32))) (hs40_35 : v2 = (2 : Int32)) (hne01 : ¬ (u_Network_Shape_PATH = u_Network_Shape_STAR)) (hne02 : ¬ (u_Network_Shape_PATH = u_Network_Shape_TREE)) (hne03 : ¬ (u_Network_Shape_PATH = u_Network_Shape_GENERAL)) (hne10 : ¬ (u_Network_Shape_STAR = u_Network_Shape_PATH)) (hne12 : ¬ (u_Network_Shape_STAR = u_Network_Shape_TREE)) (hne13 : ¬ (u_Network_Shape_STAR = u_Network_Shape_GENERAL)) (hne20 : ¬ (u_Network_Shape_TREE = u_Network_Shape_PATH)) (hne21 : ¬ (u_Network_Shape_TREE = u_Network_Shape_STAR)) (hne23 : ¬ (u_Network_Shape_TREE = u_Network_Shape_GENERAL)) (hne30 : ¬ (u_Network_Shape_GENERAL = u_Network_Shape_PATH)) (hne31 : ¬ (u_Network_Shape_GENERAL = u_Network_Shape_STAR)) (hne32 : ¬ (u_Network_Shape_GENERAL = u_Network_Shape_TREE)) : v39 = 1 := by
  have e : v37 = 1 := by rw [hv37, hs38_24, hs40_35]; decide
  rw [hv39, e, if_pos]
  rw [own_r1]
  simp [hne01, hne02, hne03, hne10, hne12, hne13, hne20, hne21, hne23, hne30, hne31, hne32]
set_option maxRecDepth 65536 in
theorem own_leaf7 {p0 p1 v1 v2 v42 v44 : Int32} {u_Network_Shape_PATH u_Network_Shape_STAR u_Network_Shape_TREE u_Network_Shape_GENERAL : Addr} (hv1 : v1 = (p0 &&& (3 : Int32))) (hv2 : v2 = (p1 &&& (3 : Int32))) (hv42 : v42 = (if (((33893 : Int32) >>> (((v1 * (4 : Int32)) + v2) &&& 31)) &&& (1 : Int32)) = (0 : Int32) then (0 : Int32) else (1 : Int32))) (hv44 : v44 = (if (own_r1 u_Network_Shape_STAR u_Network_Shape_GENERAL u_Network_Shape_TREE u_Network_Shape_GENERAL) = v42 then (1 : Int32) else (0 : Int32))) (hs38_3 : ¬ (v1 = (0 : Int32))) (hs38_24 : v1 = (1 : Int32)) (hs40_25 : ¬ (v2 = (0 : Int32))) (hs40_30 : ¬ (v2 = (1 : Int32))) (hs40_35 : ¬ (v2 = (2 : Int32))) (hs40_40 : v2 = (3 : Int32)) (hne01 : ¬ (u_Network_Shape_PATH = u_Network_Shape_STAR)) (hne02 : ¬ (u_Network_Shape_PATH = u_Network_Shape_TREE)) (hne03 : ¬ (u_Network_Shape_PATH = u_Network_Shape_GENERAL)) (hne10 : ¬ (u_Network_Shape_STAR = u_Network_Shape_PATH)) (hne12 : ¬ (u_Network_Shape_STAR = u_Network_Shape_TREE)) (hne13 : ¬ (u_Network_Shape_STAR = u_Network_Shape_GENERAL)) (hne20 : ¬ (u_Network_Shape_TREE = u_Network_Shape_PATH)) (hne21 : ¬ (u_Network_Shape_TREE = u_Network_Shape_STAR)) (hne23 : ¬ (u_Network_Shape_TREE = u_Network_Shape_GENERAL)) (hne30 : ¬ (u_Network_Shape_GENERAL = u_Network_Shape_PATH)) (hne31 : ¬ (u_Network_Shape_GENERAL = u_Network_Shape_STAR)) (hne32 : ¬ (u_Network_Shape_GENERAL = u_Network_Shape_TREE)) : v44 = 1 := by
  have e : v42 = 0 := by rw [hv42, hs38_24, hs40_40]; decide
  rw [hv44, e, if_pos]
  rw [own_r1]
  simp [hne01, hne02, hne03, hne10, hne12, hne13, hne20, hne21, hne23, hne30, hne31, hne32]
set_option maxRecDepth 65536 in
theorem own_leaf8 {p0 p1 v1 v2 v48 v50 : Int32} {u_Network_Shape_PATH u_Network_Shape_STAR u_Network_Shape_TREE u_Network_Shape_GENERAL : Addr} (hv1 : v1 = (p0 &&& (3 : Int32))) (hv2 : v2 = (p1 &&& (3 : Int32))) (hv48 : v48 = (if (((33893 : Int32) >>> (((v1 * (4 : Int32)) + v2) &&& 31)) &&& (1 : Int32)) = (0 : Int32) then (0 : Int32) else (1 : Int32))) (hv50 : v50 = (if (own_r1 u_Network_Shape_TREE u_Network_Shape_PATH u_Network_Shape_TREE u_Network_Shape_GENERAL) = v48 then (1 : Int32) else (0 : Int32))) (hs38_3 : ¬ (v1 = (0 : Int32))) (hs38_24 : ¬ (v1 = (1 : Int32))) (hs38_45 : v1 = (2 : Int32)) (hs40_46 : v2 = (0 : Int32)) (hne01 : ¬ (u_Network_Shape_PATH = u_Network_Shape_STAR)) (hne02 : ¬ (u_Network_Shape_PATH = u_Network_Shape_TREE)) (hne03 : ¬ (u_Network_Shape_PATH = u_Network_Shape_GENERAL)) (hne10 : ¬ (u_Network_Shape_STAR = u_Network_Shape_PATH)) (hne12 : ¬ (u_Network_Shape_STAR = u_Network_Shape_TREE)) (hne13 : ¬ (u_Network_Shape_STAR = u_Network_Shape_GENERAL)) (hne20 : ¬ (u_Network_Shape_TREE = u_Network_Shape_PATH)) (hne21 : ¬ (u_Network_Shape_TREE = u_Network_Shape_STAR)) (hne23 : ¬ (u_Network_Shape_TREE = u_Network_Shape_GENERAL)) (hne30 : ¬ (u_Network_Shape_GENERAL = u_Network_Shape_PATH)) (hne31 : ¬ (u_Network_Shape_GENERAL = u_Network_Shape_STAR)) (hne32 : ¬ (u_Network_Shape_GENERAL = u_Network_Shape_TREE)) : v50 = 1 := by
  have e : v48 = 0 := by rw [hv48, hs38_45, hs40_46]; decide
  rw [hv50, e, if_pos]
  rw [own_r1]
  simp [hne01, hne02, hne03, hne10, hne12, hne13, hne20, hne21, hne23, hne30, hne31, hne32]
set_option maxRecDepth 65536 in
theorem own_leaf9 {p0 p1 v1 v2 v53 v55 : Int32} {u_Network_Shape_PATH u_Network_Shape_STAR u_Network_Shape_TREE u_Network_Shape_GENERAL : Addr} (hv1 : v1 = (p0 &&& (3 : Int32))) (hv2 : v2 = (p1 &&& (3 : Int32))) (hv53 : v53 = (if (((33893 : Int32) >>> (((v1 * (4 : Int32)) + v2) &&& 31)) &&& (1 : Int32)) = (0 : Int32) then (0 : Int32) else (1 : Int32))) (hv55 : v55 = (if (own_r1 u_Network_Shape_TREE u_Network_Shape_STAR u_Network_Shape_TREE u_Network_Shape_GENERAL) = v53 then (1 : Int32) else (0 : Int32))) (hs38_3 : ¬ (v1 = (0 : Int32))) (hs38_24 : ¬ (v1 = (1 : Int32))) (hs38_45 : v1 = (2 : Int32)) (hs40_46 : ¬ (v2 = (0 : Int32))) (hs40_51 : v2 = (1 : Int32)) (hne01 : ¬ (u_Network_Shape_PATH = u_Network_Shape_STAR)) (hne02 : ¬ (u_Network_Shape_PATH = u_Network_Shape_TREE)) (hne03 : ¬ (u_Network_Shape_PATH = u_Network_Shape_GENERAL)) (hne10 : ¬ (u_Network_Shape_STAR = u_Network_Shape_PATH)) (hne12 : ¬ (u_Network_Shape_STAR = u_Network_Shape_TREE)) (hne13 : ¬ (u_Network_Shape_STAR = u_Network_Shape_GENERAL)) (hne20 : ¬ (u_Network_Shape_TREE = u_Network_Shape_PATH)) (hne21 : ¬ (u_Network_Shape_TREE = u_Network_Shape_STAR)) (hne23 : ¬ (u_Network_Shape_TREE = u_Network_Shape_GENERAL)) (hne30 : ¬ (u_Network_Shape_GENERAL = u_Network_Shape_PATH)) (hne31 : ¬ (u_Network_Shape_GENERAL = u_Network_Shape_STAR)) (hne32 : ¬ (u_Network_Shape_GENERAL = u_Network_Shape_TREE)) : v55 = 1 := by
  have e : v53 = 0 := by rw [hv53, hs38_45, hs40_51]; decide
  rw [hv55, e, if_pos]
  rw [own_r1]
  simp [hne01, hne02, hne03, hne10, hne12, hne13, hne20, hne21, hne23, hne30, hne31, hne32]
set_option maxRecDepth 65536 in
theorem own_leaf10 {p0 p1 v1 v2 v58 v60 : Int32} {u_Network_Shape_PATH u_Network_Shape_STAR u_Network_Shape_TREE u_Network_Shape_GENERAL : Addr} (hv1 : v1 = (p0 &&& (3 : Int32))) (hv2 : v2 = (p1 &&& (3 : Int32))) (hv58 : v58 = (if (((33893 : Int32) >>> (((v1 * (4 : Int32)) + v2) &&& 31)) &&& (1 : Int32)) = (0 : Int32) then (0 : Int32) else (1 : Int32))) (hv60 : v60 = (if (own_r1 u_Network_Shape_TREE u_Network_Shape_TREE u_Network_Shape_TREE u_Network_Shape_GENERAL) = v58 then (1 : Int32) else (0 : Int32))) (hs38_3 : ¬ (v1 = (0 : Int32))) (hs38_24 : ¬ (v1 = (1 : Int32))) (hs38_45 : v1 = (2 : Int32)) (hs40_46 : ¬ (v2 = (0 : Int32))) (hs40_51 : ¬ (v2 = (1 : Int32))) (hs40_56 : v2 = (2 : Int32)) (hne01 : ¬ (u_Network_Shape_PATH = u_Network_Shape_STAR)) (hne02 : ¬ (u_Network_Shape_PATH = u_Network_Shape_TREE)) (hne03 : ¬ (u_Network_Shape_PATH = u_Network_Shape_GENERAL)) (hne10 : ¬ (u_Network_Shape_STAR = u_Network_Shape_PATH)) (hne12 : ¬ (u_Network_Shape_STAR = u_Network_Shape_TREE)) (hne13 : ¬ (u_Network_Shape_STAR = u_Network_Shape_GENERAL)) (hne20 : ¬ (u_Network_Shape_TREE = u_Network_Shape_PATH)) (hne21 : ¬ (u_Network_Shape_TREE = u_Network_Shape_STAR)) (hne23 : ¬ (u_Network_Shape_TREE = u_Network_Shape_GENERAL)) (hne30 : ¬ (u_Network_Shape_GENERAL = u_Network_Shape_PATH)) (hne31 : ¬ (u_Network_Shape_GENERAL = u_Network_Shape_STAR)) (hne32 : ¬ (u_Network_Shape_GENERAL = u_Network_Shape_TREE)) : v60 = 1 := by
  have e : v58 = 1 := by rw [hv58, hs38_45, hs40_56]; decide
  rw [hv60, e, if_pos]
  rw [own_r1]
  simp [hne01, hne02, hne03, hne10, hne12, hne13, hne20, hne21, hne23, hne30, hne31, hne32]
set_option maxRecDepth 65536 in
theorem own_leaf11 {p0 p1 v1 v2 v63 v65 : Int32} {u_Network_Shape_PATH u_Network_Shape_STAR u_Network_Shape_TREE u_Network_Shape_GENERAL : Addr} (hv1 : v1 = (p0 &&& (3 : Int32))) (hv2 : v2 = (p1 &&& (3 : Int32))) (hv63 : v63 = (if (((33893 : Int32) >>> (((v1 * (4 : Int32)) + v2) &&& 31)) &&& (1 : Int32)) = (0 : Int32) then (0 : Int32) else (1 : Int32))) (hv65 : v65 = (if (own_r1 u_Network_Shape_TREE u_Network_Shape_GENERAL u_Network_Shape_TREE u_Network_Shape_GENERAL) = v63 then (1 : Int32) else (0 : Int32))) (hs38_3 : ¬ (v1 = (0 : Int32))) (hs38_24 : ¬ (v1 = (1 : Int32))) (hs38_45 : v1 = (2 : Int32)) (hs40_46 : ¬ (v2 = (0 : Int32))) (hs40_51 : ¬ (v2 = (1 : Int32))) (hs40_56 : ¬ (v2 = (2 : Int32))) (hs40_61 : v2 = (3 : Int32)) (hne01 : ¬ (u_Network_Shape_PATH = u_Network_Shape_STAR)) (hne02 : ¬ (u_Network_Shape_PATH = u_Network_Shape_TREE)) (hne03 : ¬ (u_Network_Shape_PATH = u_Network_Shape_GENERAL)) (hne10 : ¬ (u_Network_Shape_STAR = u_Network_Shape_PATH)) (hne12 : ¬ (u_Network_Shape_STAR = u_Network_Shape_TREE)) (hne13 : ¬ (u_Network_Shape_STAR = u_Network_Shape_GENERAL)) (hne20 : ¬ (u_Network_Shape_TREE = u_Network_Shape_PATH)) (hne21 : ¬ (u_Network_Shape_TREE = u_Network_Shape_STAR)) (hne23 : ¬ (u_Network_Shape_TREE = u_Network_Shape_GENERAL)) (hne30 : ¬ (u_Network_Shape_GENERAL = u_Network_Shape_PATH)) (hne31 : ¬ (u_Network_Shape_GENERAL = u_Network_Shape_STAR)) (hne32 : ¬ (u_Network_Shape_GENERAL = u_Network_Shape_TREE)) : v65 = 1 := by
  have e : v63 = 0 := by rw [hv63, hs38_45, hs40_61]; decide
  rw [hv65, e, if_pos]
  rw [own_r1]
  simp [hne01, hne02, hne03, hne10, hne12, hne13, hne20, hne21, hne23, hne30, hne31, hne32]
set_option maxRecDepth 65536 in
theorem own_leaf12 {p0 p1 v1 v2 v69 v71 : Int32} {u_Network_Shape_PATH u_Network_Shape_STAR u_Network_Shape_TREE u_Network_Shape_GENERAL : Addr} (hv1 : v1 = (p0 &&& (3 : Int32))) (hv2 : v2 = (p1 &&& (3 : Int32))) (hv69 : v69 = (if (((33893 : Int32) >>> (((v1 * (4 : Int32)) + v2) &&& 31)) &&& (1 : Int32)) = (0 : Int32) then (0 : Int32) else (1 : Int32))) (hv71 : v71 = (if (own_r1 u_Network_Shape_GENERAL u_Network_Shape_PATH u_Network_Shape_TREE u_Network_Shape_GENERAL) = v69 then (1 : Int32) else (0 : Int32))) (hs38_3 : ¬ (v1 = (0 : Int32))) (hs38_24 : ¬ (v1 = (1 : Int32))) (hs38_45 : ¬ (v1 = (2 : Int32))) (hs38_66 : v1 = (3 : Int32)) (hs40_67 : v2 = (0 : Int32)) (hne01 : ¬ (u_Network_Shape_PATH = u_Network_Shape_STAR)) (hne02 : ¬ (u_Network_Shape_PATH = u_Network_Shape_TREE)) (hne03 : ¬ (u_Network_Shape_PATH = u_Network_Shape_GENERAL)) (hne10 : ¬ (u_Network_Shape_STAR = u_Network_Shape_PATH)) (hne12 : ¬ (u_Network_Shape_STAR = u_Network_Shape_TREE)) (hne13 : ¬ (u_Network_Shape_STAR = u_Network_Shape_GENERAL)) (hne20 : ¬ (u_Network_Shape_TREE = u_Network_Shape_PATH)) (hne21 : ¬ (u_Network_Shape_TREE = u_Network_Shape_STAR)) (hne23 : ¬ (u_Network_Shape_TREE = u_Network_Shape_GENERAL)) (hne30 : ¬ (u_Network_Shape_GENERAL = u_Network_Shape_PATH)) (hne31 : ¬ (u_Network_Shape_GENERAL = u_Network_Shape_STAR)) (hne32 : ¬ (u_Network_Shape_GENERAL = u_Network_Shape_TREE)) : v71 = 1 := by
  have e : v69 = 0 := by rw [hv69, hs38_66, hs40_67]; decide
  rw [hv71, e, if_pos]
  rw [own_r1]
  simp [hne01, hne02, hne03, hne10, hne12, hne13, hne20, hne21, hne23, hne30, hne31, hne32]
set_option maxRecDepth 65536 in
theorem own_leaf13 {p0 p1 v1 v2 v74 v76 : Int32} {u_Network_Shape_PATH u_Network_Shape_STAR u_Network_Shape_TREE u_Network_Shape_GENERAL : Addr} (hv1 : v1 = (p0 &&& (3 : Int32))) (hv2 : v2 = (p1 &&& (3 : Int32))) (hv74 : v74 = (if (((33893 : Int32) >>> (((v1 * (4 : Int32)) + v2) &&& 31)) &&& (1 : Int32)) = (0 : Int32) then (0 : Int32) else (1 : Int32))) (hv76 : v76 = (if (own_r1 u_Network_Shape_GENERAL u_Network_Shape_STAR u_Network_Shape_TREE u_Network_Shape_GENERAL) = v74 then (1 : Int32) else (0 : Int32))) (hs38_3 : ¬ (v1 = (0 : Int32))) (hs38_24 : ¬ (v1 = (1 : Int32))) (hs38_45 : ¬ (v1 = (2 : Int32))) (hs38_66 : v1 = (3 : Int32)) (hs40_67 : ¬ (v2 = (0 : Int32))) (hs40_72 : v2 = (1 : Int32)) (hne01 : ¬ (u_Network_Shape_PATH = u_Network_Shape_STAR)) (hne02 : ¬ (u_Network_Shape_PATH = u_Network_Shape_TREE)) (hne03 : ¬ (u_Network_Shape_PATH = u_Network_Shape_GENERAL)) (hne10 : ¬ (u_Network_Shape_STAR = u_Network_Shape_PATH)) (hne12 : ¬ (u_Network_Shape_STAR = u_Network_Shape_TREE)) (hne13 : ¬ (u_Network_Shape_STAR = u_Network_Shape_GENERAL)) (hne20 : ¬ (u_Network_Shape_TREE = u_Network_Shape_PATH)) (hne21 : ¬ (u_Network_Shape_TREE = u_Network_Shape_STAR)) (hne23 : ¬ (u_Network_Shape_TREE = u_Network_Shape_GENERAL)) (hne30 : ¬ (u_Network_Shape_GENERAL = u_Network_Shape_PATH)) (hne31 : ¬ (u_Network_Shape_GENERAL = u_Network_Shape_STAR)) (hne32 : ¬ (u_Network_Shape_GENERAL = u_Network_Shape_TREE)) : v76 = 1 := by
  have e : v74 = 0 := by rw [hv74, hs38_66, hs40_72]; decide
  rw [hv76, e, if_pos]
  rw [own_r1]
  simp [hne01, hne02, hne03, hne10, hne12, hne13, hne20, hne21, hne23, hne30, hne31, hne32]
set_option maxRecDepth 65536 in
theorem own_leaf14 {p0 p1 v1 v2 v79 v81 : Int32} {u_Network_Shape_PATH u_Network_Shape_STAR u_Network_Shape_TREE u_Network_Shape_GENERAL : Addr} (hv1 : v1 = (p0 &&& (3 : Int32))) (hv2 : v2 = (p1 &&& (3 : Int32))) (hv79 : v79 = (if (((33893 : Int32) >>> (((v1 * (4 : Int32)) + v2) &&& 31)) &&& (1 : Int32)) = (0 : Int32) then (0 : Int32) else (1 : Int32))) (hv81 : v81 = (if (own_r1 u_Network_Shape_GENERAL u_Network_Shape_TREE u_Network_Shape_TREE u_Network_Shape_GENERAL) = v79 then (1 : Int32) else (0 : Int32))) (hs38_3 : ¬ (v1 = (0 : Int32))) (hs38_24 : ¬ (v1 = (1 : Int32))) (hs38_45 : ¬ (v1 = (2 : Int32))) (hs38_66 : v1 = (3 : Int32)) (hs40_67 : ¬ (v2 = (0 : Int32))) (hs40_72 : ¬ (v2 = (1 : Int32))) (hs40_77 : v2 = (2 : Int32)) (hne01 : ¬ (u_Network_Shape_PATH = u_Network_Shape_STAR)) (hne02 : ¬ (u_Network_Shape_PATH = u_Network_Shape_TREE)) (hne03 : ¬ (u_Network_Shape_PATH = u_Network_Shape_GENERAL)) (hne10 : ¬ (u_Network_Shape_STAR = u_Network_Shape_PATH)) (hne12 : ¬ (u_Network_Shape_STAR = u_Network_Shape_TREE)) (hne13 : ¬ (u_Network_Shape_STAR = u_Network_Shape_GENERAL)) (hne20 : ¬ (u_Network_Shape_TREE = u_Network_Shape_PATH)) (hne21 : ¬ (u_Network_Shape_TREE = u_Network_Shape_STAR)) (hne23 : ¬ (u_Network_Shape_TREE = u_Network_Shape_GENERAL)) (hne30 : ¬ (u_Network_Shape_GENERAL = u_Network_Shape_PATH)) (hne31 : ¬ (u_Network_Shape_GENERAL = u_Network_Shape_STAR)) (hne32 : ¬ (u_Network_Shape_GENERAL = u_Network_Shape_TREE)) : v81 = 1 := by
  have e : v79 = 0 := by rw [hv79, hs38_66, hs40_77]; decide
  rw [hv81, e, if_pos]
  rw [own_r1]
  simp [hne01, hne02, hne03, hne10, hne12, hne13, hne20, hne21, hne23, hne30, hne31, hne32]
set_option maxRecDepth 65536 in
theorem own_leaf15 {p0 p1 v1 v2 v84 v86 : Int32} {u_Network_Shape_PATH u_Network_Shape_STAR u_Network_Shape_TREE u_Network_Shape_GENERAL : Addr} (hv1 : v1 = (p0 &&& (3 : Int32))) (hv2 : v2 = (p1 &&& (3 : Int32))) (hv84 : v84 = (if (((33893 : Int32) >>> (((v1 * (4 : Int32)) + v2) &&& 31)) &&& (1 : Int32)) = (0 : Int32) then (0 : Int32) else (1 : Int32))) (hv86 : v86 = (if (own_r1 u_Network_Shape_GENERAL u_Network_Shape_GENERAL u_Network_Shape_TREE u_Network_Shape_GENERAL) = v84 then (1 : Int32) else (0 : Int32))) (hs38_3 : ¬ (v1 = (0 : Int32))) (hs38_24 : ¬ (v1 = (1 : Int32))) (hs38_45 : ¬ (v1 = (2 : Int32))) (hs38_66 : v1 = (3 : Int32)) (hs40_67 : ¬ (v2 = (0 : Int32))) (hs40_72 : ¬ (v2 = (1 : Int32))) (hs40_77 : ¬ (v2 = (2 : Int32))) (hs40_82 : v2 = (3 : Int32)) (hne01 : ¬ (u_Network_Shape_PATH = u_Network_Shape_STAR)) (hne02 : ¬ (u_Network_Shape_PATH = u_Network_Shape_TREE)) (hne03 : ¬ (u_Network_Shape_PATH = u_Network_Shape_GENERAL)) (hne10 : ¬ (u_Network_Shape_STAR = u_Network_Shape_PATH)) (hne12 : ¬ (u_Network_Shape_STAR = u_Network_Shape_TREE)) (hne13 : ¬ (u_Network_Shape_STAR = u_Network_Shape_GENERAL)) (hne20 : ¬ (u_Network_Shape_TREE = u_Network_Shape_PATH)) (hne21 : ¬ (u_Network_Shape_TREE = u_Network_Shape_STAR)) (hne23 : ¬ (u_Network_Shape_TREE = u_Network_Shape_GENERAL)) (hne30 : ¬ (u_Network_Shape_GENERAL = u_Network_Shape_PATH)) (hne31 : ¬ (u_Network_Shape_GENERAL = u_Network_Shape_STAR)) (hne32 : ¬ (u_Network_Shape_GENERAL = u_Network_Shape_TREE)) : v86 = 1 := by
  have e : v84 = 1 := by rw [hv84, hs38_66, hs40_82]; decide
  rw [hv86, e, if_pos]
  rw [own_r1]
  simp [hne01, hne02, hne03, hne10, hne12, hne13, hne20, hne21, hne23, hne30, hne31, hne32]
theorem pn2 : plainName "com/example/swapgraph/swapgraph/ShapeWithinPinLaw" = true := by first | (simp [plainName, overriddenIn]; done) | decide +kernel
def Q0 (Z : State) (p0 : Int32) (p1 : Int32) (u_Network_Shape_PATH : Addr) (u_Network_Shape_STAR : Addr) (u_Network_Shape_TREE : Addr) (u_Network_Shape_GENERAL : Addr) (h0 : Heap) (n0 : Nat) (v : Option Value) (h : Heap) (L : List Loc) : Prop := v = some (.int 1) ∧ Fr n0 L
set_option maxRecDepth 65536 in
set_option maxHeartbeats 40000000 in
theorem rm0 (l : Launch) (Z : State) (a0 : Array Value) (hw : ∀ d ∈ tables_1, d.before a0 Z = true) (ws : List Jvm.Cond) (p0 : Int32) (p1 : Int32) (u_Network_Shape_PATH : Addr) (u_Network_Shape_STAR : Addr) (u_Network_Shape_TREE : Addr) (u_Network_Shape_GENERAL : Addr) (h0 : Heap) (n0 : Nat) (Z0 : n0 ≤ h0.size) (S_u_Network_Shape_PATH : Sta Z h0 "com/example/swapgraph/swapgraph/Network$Shape" "PATH" "Lcom/example/swapgraph/swapgraph/Network$Shape;" (.ref u_Network_Shape_PATH)) (E_u_Network_Shape_PATH : Exa Z h0 u_Network_Shape_PATH "com/example/swapgraph/swapgraph/Network$Shape") (S_u_Network_Shape_STAR : Sta Z h0 "com/example/swapgraph/swapgraph/Network$Shape" "STAR" "Lcom/example/swapgraph/swapgraph/Network$Shape;" (.ref u_Network_Shape_STAR)) (E_u_Network_Shape_STAR : Exa Z h0 u_Network_Shape_STAR "com/example/swapgraph/swapgraph/Network$Shape") (S_u_Network_Shape_TREE : Sta Z h0 "com/example/swapgraph/swapgraph/Network$Shape" "TREE" "Lcom/example/swapgraph/swapgraph/Network$Shape;" (.ref u_Network_Shape_TREE)) (E_u_Network_Shape_TREE : Exa Z h0 u_Network_Shape_TREE "com/example/swapgraph/swapgraph/Network$Shape") (S_u_Network_Shape_GENERAL : Sta Z h0 "com/example/swapgraph/swapgraph/Network$Shape" "GENERAL" "Lcom/example/swapgraph/swapgraph/Network$Shape;" (.ref u_Network_Shape_GENERAL)) (E_u_Network_Shape_GENERAL : Exa Z h0 u_Network_Shape_GENERAL "com/example/swapgraph/swapgraph/Network$Shape") (F_ordinal_u_Network_Shape_PATH : Fld Z h0 u_Network_Shape_PATH "java/lang/Enum" "ordinal" "I" (.int (0 : Int32))) (F_ordinal_u_Network_Shape_GENERAL : Fld Z h0 u_Network_Shape_GENERAL "java/lang/Enum" "ordinal" "I" (.int (3 : Int32))) (F_ordinal_u_Network_Shape_TREE : Fld Z h0 u_Network_Shape_TREE "java/lang/Enum" "ordinal" "I" (.int (2 : Int32))) (F_ordinal_u_Network_Shape_STAR : Fld Z h0 u_Network_Shape_STAR "java/lang/Enum" "ordinal" "I" (.int (1 : Int32))) :
    MetFree l x (head1 (Jvm.Cond.code x code maxLocals ret :: ws) room_1) (fun a U => a = #[(.int p0), (.int p1)] ∧ Z.Warmed39 U.vm ∧ U.heap = h0) (fun _ _ _ _ _ => True) (fun _ U o U' => ∃ v L, o = .returned v ∧ Q0 Z p0 p1 u_Network_Shape_PATH u_Network_Shape_STAR u_Network_Shape_TREE u_Network_Shape_GENERAL h0 n0 v U'.heap L ∧ FrameEnd U o U' L room_1.cells room_1.slots) := by
  refine MetFree.of_bodySF (plainFor_of_name pn2) hisR ?_
  intro p e s m args below meth c s₁ Bd hml0 hP hK
  obtain ⟨rfl, hZ, hh⟩ := hP
  have hx := Bd.exec
  have hby := Bd.bytes
  have hml : c.maxLocals = 6 := hml0
  have hown : s.vm.findClass "com/example/swapgraph/swapgraph/ShapeWithinPinLaw" = some m.cls := findClass_of_methodNamed Bd.named
  have hnm := (name_of_methodNamed Bd.named Bd.method).1
  have X0 : Stand p l e room_1 s m #[(.int p0), (.int p1)] below meth c s₁ [] 0 0 := Stand.of_body Bd
  have e0 : s₁.heap = h0 := by rw [← hh, Bd.state]; rfl
  have N0 := Fr.nil n0
  have K0 : Keep h0 h0 [] := Keep.refl h0 _
  show own_Go p e below s (Q0 Z p0 p1 u_Network_Shape_PATH u_Network_Shape_STAR u_Network_Shape_TREE u_Network_Shape_GENERAL h0 n0) room_1.cells room_1.slots (s₁.setTop (entryFrame m #[(.int p0), (.int p1)] maxLocals))
  refine own_go (fun t k => castTop (ef_0 m p0 p1) k) ?_
  have hne01 : ¬ (u_Network_Shape_PATH = u_Network_Shape_STAR) := Fld.ne F_ordinal_u_Network_Shape_PATH F_ordinal_u_Network_Shape_STAR (fun q => absurd (Value.int.inj q) (by decide))
  have hne02 : ¬ (u_Network_Shape_PATH = u_Network_Shape_TREE) := Fld.ne F_ordinal_u_Network_Shape_PATH F_ordinal_u_Network_Shape_TREE (fun q => absurd (Value.int.inj q) (by decide))
  have hne03 : ¬ (u_Network_Shape_PATH = u_Network_Shape_GENERAL) := Fld.ne F_ordinal_u_Network_Shape_PATH F_ordinal_u_Network_Shape_GENERAL (fun q => absurd (Value.int.inj q) (by decide))
  have hne10 : ¬ (u_Network_Shape_STAR = u_Network_Shape_PATH) := Fld.ne F_ordinal_u_Network_Shape_STAR F_ordinal_u_Network_Shape_PATH (fun q => absurd (Value.int.inj q) (by decide))
  have hne12 : ¬ (u_Network_Shape_STAR = u_Network_Shape_TREE) := Fld.ne F_ordinal_u_Network_Shape_STAR F_ordinal_u_Network_Shape_TREE (fun q => absurd (Value.int.inj q) (by decide))
  have hne13 : ¬ (u_Network_Shape_STAR = u_Network_Shape_GENERAL) := Fld.ne F_ordinal_u_Network_Shape_STAR F_ordinal_u_Network_Shape_GENERAL (fun q => absurd (Value.int.inj q) (by decide))
  have hne20 : ¬ (u_Network_Shape_TREE = u_Network_Shape_PATH) := Fld.ne F_ordinal_u_Network_Shape_TREE F_ordinal_u_Network_Shape_PATH (fun q => absurd (Value.int.inj q) (by decide))
  have hne21 : ¬ (u_Network_Shape_TREE = u_Network_Shape_STAR) := Fld.ne F_ordinal_u_Network_Shape_TREE F_ordinal_u_Network_Shape_STAR (fun q => absurd (Value.int.inj q) (by decide))
  have hne23 : ¬ (u_Network_Shape_TREE = u_Network_Shape_GENERAL) := Fld.ne F_ordinal_u_Network_Shape_TREE F_ordinal_u_Network_Shape_GENERAL (fun q => absurd (Value.int.inj q) (by decide))
  have hne30 : ¬ (u_Network_Shape_GENERAL = u_Network_Shape_PATH) := Fld.ne F_ordinal_u_Network_Shape_GENERAL F_ordinal_u_Network_Shape_PATH (fun q => absurd (Value.int.inj q) (by decide))
  have hne31 : ¬ (u_Network_Shape_GENERAL = u_Network_Shape_STAR) := Fld.ne F_ordinal_u_Network_Shape_GENERAL F_ordinal_u_Network_Shape_STAR (fun q => absurd (Value.int.inj q) (by decide))
  have hne32 : ¬ (u_Network_Shape_GENERAL = u_Network_Shape_TREE) := Fld.ne F_ordinal_u_Network_Shape_GENERAL F_ordinal_u_Network_Shape_TREE (fun q => absurd (Value.int.inj q) (by decide))
  obtain ⟨v1, hv1⟩ : ∃ z : Int32, z = (p0 &&& (3 : Int32)) := ⟨_, rfl⟩
  obtain ⟨v2, hv2⟩ : ∃ z : Int32, z = (p1 &&& (3 : Int32)) := ⟨_, rfl⟩
  obtain ⟨T101, h101, k101, X101, e101, E101, A101, O101, st101⟩ := newR X0 hx hZ hown (hw _ (List.mem_of_getElem? (i := 0) rfl)) (hw _ (List.mem_of_getElem? (i := 1) rfl)) e0 (g := (mkF m 9 #[.val (.int p0), .val (.int p1), .val (.int v1), .val (.int v2), .unset, .unset] [(.int (4 : Int32))])) rfl (hb hby at_9) rfl (by decide) (cap := 4) (by decide) (by decide) (by decide) (by decide)
  obtain ⟨b101, g101⟩ : ∃ z, z = h0.size := ⟨_, rfl⟩
  rw [← g101] at A101 st101
  have ne_u_Network_Shape_PATH_b101 : u_Network_Shape_PATH ≠ b101 := Nat.ne_of_lt (Nat.lt_of_lt_of_le E_u_Network_Shape_PATH.lt (Nat.le_of_eq g101.symm))
  have ne_u_Network_Shape_STAR_b101 : u_Network_Shape_STAR ≠ b101 := Nat.ne_of_lt (Nat.lt_of_lt_of_le E_u_Network_Shape_STAR.lt (Nat.le_of_eq g101.symm))
  have ne_u_Network_Shape_TREE_b101 : u_Network_Shape_TREE ≠ b101 := Nat.ne_of_lt (Nat.lt_of_lt_of_le E_u_Network_Shape_TREE.lt (Nat.le_of_eq g101.symm))
  have ne_u_Network_Shape_GENERAL_b101 : u_Network_Shape_GENERAL ≠ b101 := Nat.ne_of_lt (Nat.lt_of_lt_of_le E_u_Network_Shape_GENERAL.lt (Nat.le_of_eq g101.symm))
  have g_b101 : n0 ≤ b101 := Nat.le_trans Z0 (Nat.le_of_eq g101.symm)
  have sz_b101 : h0.size ≤ b101 := Nat.le_trans K0.1 (Nat.le_of_eq g101.symm)
  have F102 := S_u_Network_Shape_PATH.ext E101
  have F103 := E_u_Network_Shape_PATH.ext E101
  have F104 := S_u_Network_Shape_STAR.ext E101
  have F105 := E_u_Network_Shape_STAR.ext E101
  have F106 := S_u_Network_Shape_TREE.ext E101
  have F107 := E_u_Network_Shape_TREE.ext E101
  have F108 := S_u_Network_Shape_GENERAL.ext E101
  have F109 := E_u_Network_Shape_GENERAL.ext E101
  have F110 := F_ordinal_u_Network_Shape_PATH.ext E101
  have F111 := F_ordinal_u_Network_Shape_GENERAL.ext E101
  have F112 := F_ordinal_u_Network_Shape_TREE.ext E101
  have F113 := F_ordinal_u_Network_Shape_STAR.ext E101
  have Z114 : n0 ≤ h101.size := Nat.le_trans Z0 E101.1
  have K115 : Keep h0 h101 [] := K0.ext E101
  have F116 : own_AR Z h101 b101 "com/example/swapgraph/swapgraph/Network$Shape" 4 [.null, .null, .null, .null] := own_AR.new A101 O101 (by decide)
  obtain ⟨T117, X117, e117, st117⟩ := getS2 X101 hx hZ hown (host := "") (Or.inl (hw _ (List.mem_of_getElem? (i := 2) rfl))) Via.refl e101 F102 (g := (mkF m 14 #[.val (.int p0), .val (.int p1), .val (.int v1), .val (.int v2), .unset, .unset] [(.int (0 : Int32)), (.ref b101), (.ref b101)])) rfl (hb hby at_14)
  have hin17_118 : ¬ (0 : Int32) < 0 ∧ (0 : Int32).toNatClampNeg < 4 := by decide
  obtain ⟨T119, h119, X119, e119, W119, B119, st119⟩ := own_stR X117 hx hZ e117 F116 (j := (0 : Int32)) hin17_118 (Ins.self F103) (g := (mkF m 17 #[.val (.int p0), .val (.int p1), .val (.int v1), .val (.int v2), .unset, .unset] [(.ref u_Network_Shape_PATH), (.int (0 : Int32)), (.ref b101), (.ref b101)])) rfl rfl (hb hby at_17)
  have B119n : own_AR Z h119 b101 "com/example/swapgraph/swapgraph/Network$Shape" 4 [(.ref u_Network_Shape_PATH), .null, .null, .null] := B119
  have F120 := F102.wr W119
  have F121 := F103.wr W119
  have F122 := F104.wr W119
  have F123 := F105.wr W119
  have F124 := F106.wr W119
  have F125 := F107.wr W119
  have F126 := F108.wr W119
  have F127 := F109.wr W119
  have F128 := F110.other W119 (Or.inl ne_u_Network_Shape_PATH_b101)
  have F129 := F111.other W119 (Or.inl ne_u_Network_Shape_GENERAL_b101)
  have F130 := F112.other W119 (Or.inl ne_u_Network_Shape_TREE_b101)
  have F131 := F113.other W119 (Or.inl ne_u_Network_Shape_STAR_b101)
  have Z132 : n0 ≤ h119.size := Nat.le_trans Z114 (Keep.of_wr W119).1
  have K133 : Keep h0 h119 [] := K115.wr W119 (Or.inr sz_b101)
  have N134 := Fr.snoc X119 N0 g_b101
  obtain ⟨T135, X135, e135, st135⟩ := getS2 X119 hx hZ hown (host := "") (Or.inl (hw _ (List.mem_of_getElem? (i := 6) rfl))) Via.refl e119 F122 (g := (mkF m 20 #[.val (.int p0), .val (.int p1), .val (.int v1), .val (.int v2), .unset, .unset] [(.int (1 : Int32)), (.ref b101), (.ref b101)])) rfl (hb hby at_20)
  have hin23_136 : ¬ (1 : Int32) < 0 ∧ (1 : Int32).toNatClampNeg < 4 := by decide
  obtain ⟨T137, h137, X137, e137, W137, B137, st137⟩ := own_stR X135 hx hZ e135 B119n (j := (1 : Int32)) hin23_136 (Ins.self F123) (g := (mkF m 23 #[.val (.int p0), .val (.int p1), .val (.int v1), .val (.int v2), .unset, .unset] [(.ref u_Network_Shape_STAR), (.int (1 : Int32)), (.ref b101), (.ref b101)])) rfl rfl (hb hby at_23)
  have B137n : own_AR Z h137 b101 "com/example/swapgraph/swapgraph/Network$Shape" 4 [(.ref u_Network_Shape_PATH), (.ref u_Network_Shape_STAR), .null, .null] := B137
  have F138 := F120.wr W137
  have F139 := F121.wr W137
  have F140 := F122.wr W137
  have F141 := F123.wr W137
  have F142 := F124.wr W137
  have F143 := F125.wr W137
  have F144 := F126.wr W137
  have F145 := F127.wr W137
  have F146 := F128.other W137 (Or.inl ne_u_Network_Shape_PATH_b101)
  have F147 := F129.other W137 (Or.inl ne_u_Network_Shape_GENERAL_b101)
  have F148 := F130.other W137 (Or.inl ne_u_Network_Shape_TREE_b101)
  have F149 := F131.other W137 (Or.inl ne_u_Network_Shape_STAR_b101)
  have Z150 : n0 ≤ h137.size := Nat.le_trans Z132 (Keep.of_wr W137).1
  have K151 : Keep h0 h137 [] := K133.wr W137 (Or.inr sz_b101)
  have N152 := Fr.snoc X137 N134 g_b101
  obtain ⟨T153, X153, e153, st153⟩ := getS2 X137 hx hZ hown (host := "") (Or.inl (hw _ (List.mem_of_getElem? (i := 8) rfl))) Via.refl e137 F142 (g := (mkF m 26 #[.val (.int p0), .val (.int p1), .val (.int v1), .val (.int v2), .unset, .unset] [(.int (2 : Int32)), (.ref b101), (.ref b101)])) rfl (hb hby at_26)
  have hin29_154 : ¬ (2 : Int32) < 0 ∧ (2 : Int32).toNatClampNeg < 4 := by decide
  obtain ⟨T155, h155, X155, e155, W155, B155, st155⟩ := own_stR X153 hx hZ e153 B137n (j := (2 : Int32)) hin29_154 (Ins.self F143) (g := (mkF m 29 #[.val (.int p0), .val (.int p1), .val (.int v1), .val (.int v2), .unset, .unset] [(.ref u_Network_Shape_TREE), (.int (2 : Int32)), (.ref b101), (.ref b101)])) rfl rfl (hb hby at_29)
  have B155n : own_AR Z h155 b101 "com/example/swapgraph/swapgraph/Network$Shape" 4 [(.ref u_Network_Shape_PATH), (.ref u_Network_Shape_STAR), (.ref u_Network_Shape_TREE), .null] := B155
  have F156 := F138.wr W155
  have F157 := F139.wr W155
  have F158 := F140.wr W155
  have F159 := F141.wr W155
  have F160 := F142.wr W155
  have F161 := F143.wr W155
  have F162 := F144.wr W155
  have F163 := F145.wr W155
  have F164 := F146.other W155 (Or.inl ne_u_Network_Shape_PATH_b101)
  have F165 := F147.other W155 (Or.inl ne_u_Network_Shape_GENERAL_b101)
  have F166 := F148.other W155 (Or.inl ne_u_Network_Shape_TREE_b101)
  have F167 := F149.other W155 (Or.inl ne_u_Network_Shape_STAR_b101)
  have Z168 : n0 ≤ h155.size := Nat.le_trans Z150 (Keep.of_wr W155).1
  have K169 : Keep h0 h155 [] := K151.wr W155 (Or.inr sz_b101)
  have N170 := Fr.snoc X155 N152 g_b101
  obtain ⟨T171, X171, e171, st171⟩ := getS2 X155 hx hZ hown (host := "") (Or.inl (hw _ (List.mem_of_getElem? (i := 10) rfl))) Via.refl e155 F162 (g := (mkF m 32 #[.val (.int p0), .val (.int p1), .val (.int v1), .val (.int v2), .unset, .unset] [(.int (3 : Int32)), (.ref b101), (.ref b101)])) rfl (hb hby at_32)
  have hin35_172 : ¬ (3 : Int32) < 0 ∧ (3 : Int32).toNatClampNeg < 4 := by decide
  obtain ⟨T173, h173, X173, e173, W173, B173, st173⟩ := own_stR X171 hx hZ e171 B155n (j := (3 : Int32)) hin35_172 (Ins.self F163) (g := (mkF m 35 #[.val (.int p0), .val (.int p1), .val (.int v1), .val (.int v2), .unset, .unset] [(.ref u_Network_Shape_GENERAL), (.int (3 : Int32)), (.ref b101), (.ref b101)])) rfl rfl (hb hby at_35)
  have B173n : own_AR Z h173 b101 "com/example/swapgraph/swapgraph/Network$Shape" 4 [(.ref u_Network_Shape_PATH), (.ref u_Network_Shape_STAR), (.ref u_Network_Shape_TREE), (.ref u_Network_Shape_GENERAL)] := B173
  have F174 := F156.wr W173
  have F175 := F157.wr W173
  have F176 := F158.wr W173
  have F177 := F159.wr W173
  have F178 := F160.wr W173
  have F179 := F161.wr W173
  have F180 := F162.wr W173
  have F181 := F163.wr W173
  have F182 := F164.other W173 (Or.inl ne_u_Network_Shape_PATH_b101)
  have F183 := F165.other W173 (Or.inl ne_u_Network_Shape_GENERAL_b101)
  have F184 := F166.other W173 (Or.inl ne_u_Network_Shape_TREE_b101)
  have F185 := F167.other W173 (Or.inl ne_u_Network_Shape_STAR_b101)
  have Z186 : n0 ≤ h173.size := Nat.le_trans Z168 (Keep.of_wr W173).1
  have K187 : Keep h0 h173 [] := K169.wr W173 (Or.inr sz_b101)
  have N188 := Fr.snoc X173 N170 g_b101
  have hgo189 : ∀ t, Steps p.tables e below (T173.setTop (mkF m 38 #[.val (.int p0), .val (.int p1), .val (.int v1), .val (.int v2), .val (.ref b101), .unset] [])) t → Steps p.tables e below (s₁.setTop (mkF m 0 #[.val (.int p0), .val (.int p1), .unset, .unset, .unset, .unset] [])) t := by
    intro t kt
    show Steps p.tables e below (s₁.setTop (mkF m 0 #[.val (.int p0), .val (.int p1), .unset, .unset, .unset, .unset] [])) _
    refine XS.iloadN X0.here hx rfl (hb hby at_0) rfl ?_
    show Steps p.tables e below (s₁.setTop (mkF m 1 #[.val (.int p0), .val (.int p1), .unset, .unset, .unset, .unset] [(.int p0)])) _
    refine XS.iconst X0.here hx rfl (hb hby at_1) ?_
    show Steps p.tables e below (s₁.setTop (mkF m 2 #[.val (.int p0), .val (.int p1), .unset, .unset, .unset, .unset] [(.int (3 : Int32)), (.int p0)])) _
    refine XS.iand X0.here hx rfl (hb hby at_2) rfl ?_
    show Steps p.tables e below (s₁.setTop (mkF m 3 #[.val (.int p0), .val (.int p1), .unset, .unset, .unset, .unset] [(.int (p0 &&& (3 : Int32)))])) _
    rw [← hv1]
    show Steps p.tables e below (s₁.setTop (mkF m 3 #[.val (.int p0), .val (.int p1), .unset, .unset, .unset, .unset] [(.int v1)])) _
    refine XS.istoreN X0.here hx rfl (hb hby at_3) rfl (l' := #[.val (.int p0), .val (.int p1), .val (.int v1), .unset, .unset, .unset]) rfl ?_
    show Steps p.tables e below (s₁.setTop (mkF m 4 #[.val (.int p0), .val (.int p1), .val (.int v1), .unset, .unset, .unset] [])) _
    refine XS.iloadN X0.here hx rfl (hb hby at_4) rfl ?_
    show Steps p.tables e below (s₁.setTop (mkF m 5 #[.val (.int p0), .val (.int p1), .val (.int v1), .unset, .unset, .unset] [(.int p1)])) _
    refine XS.iconst X0.here hx rfl (hb hby at_5) ?_
    show Steps p.tables e below (s₁.setTop (mkF m 6 #[.val (.int p0), .val (.int p1), .val (.int v1), .unset, .unset, .unset] [(.int (3 : Int32)), (.int p1)])) _
    refine XS.iand X0.here hx rfl (hb hby at_6) rfl ?_
    show Steps p.tables e below (s₁.setTop (mkF m 7 #[.val (.int p0), .val (.int p1), .val (.int v1), .unset, .unset, .unset] [(.int (p1 &&& (3 : Int32)))])) _
    rw [← hv2]
    show Steps p.tables e below (s₁.setTop (mkF m 7 #[.val (.int p0), .val (.int p1), .val (.int v1), .unset, .unset, .unset] [(.int v2)])) _
    refine XS.istoreN X0.here hx rfl (hb hby at_7) rfl (l' := #[.val (.int p0), .val (.int p1), .val (.int v1), .val (.int v2), .unset, .unset]) rfl ?_
    show Steps p.tables e below (s₁.setTop (mkF m 8 #[.val (.int p0), .val (.int p1), .val (.int v1), .val (.int v2), .unset, .unset] [])) _
    refine XS.iconst X0.here hx rfl (hb hby at_8) ?_
    show Steps p.tables e below (s₁.setTop (mkF m 9 #[.val (.int p0), .val (.int p1), .val (.int v1), .val (.int v2), .unset, .unset] [(.int (4 : Int32))])) _
    refine st101 _ ?_
    show Steps p.tables e below (T101.setTop (mkF m 12 #[.val (.int p0), .val (.int p1), .val (.int v1), .val (.int v2), .unset, .unset] [(.ref b101)])) _
    refine XS.dup X101.here hx rfl (hb hby at_12) rfl rfl ?_
    show Steps p.tables e below (T101.setTop (mkF m 13 #[.val (.int p0), .val (.int p1), .val (.int v1), .val (.int v2), .unset, .unset] [(.ref b101), (.ref b101)])) _
    refine XS.iconst X101.here hx rfl (hb hby at_13) ?_
    show Steps p.tables e below (T101.setTop (mkF m 14 #[.val (.int p0), .val (.int p1), .val (.int v1), .val (.int v2), .unset, .unset] [(.int (0 : Int32)), (.ref b101), (.ref b101)])) _
    refine st117 _ ?_
    show Steps p.tables e below (T117.setTop (mkF m 17 #[.val (.int p0), .val (.int p1), .val (.int v1), .val (.int v2), .unset, .unset] [(.ref u_Network_Shape_PATH), (.int (0 : Int32)), (.ref b101), (.ref b101)])) _
    refine st119 _ ?_
    show Steps p.tables e below (T119.setTop (mkF m 18 #[.val (.int p0), .val (.int p1), .val (.int v1), .val (.int v2), .unset, .unset] [(.ref b101)])) _
    refine XS.dup X119.here hx rfl (hb hby at_18) rfl rfl ?_
    show Steps p.tables e below (T119.setTop (mkF m 19 #[.val (.int p0), .val (.int p1), .val (.int v1), .val (.int v2), .unset, .unset] [(.ref b101), (.ref b101)])) _
    refine XS.iconst X119.here hx rfl (hb hby at_19) ?_
    show Steps p.tables e below (T119.setTop (mkF m 20 #[.val (.int p0), .val (.int p1), .val (.int v1), .val (.int v2), .unset, .unset] [(.int (1 : Int32)), (.ref b101), (.ref b101)])) _
    refine st135 _ ?_
    show Steps p.tables e below (T135.setTop (mkF m 23 #[.val (.int p0), .val (.int p1), .val (.int v1), .val (.int v2), .unset, .unset] [(.ref u_Network_Shape_STAR), (.int (1 : Int32)), (.ref b101), (.ref b101)])) _
    refine st137 _ ?_
    show Steps p.tables e below (T137.setTop (mkF m 24 #[.val (.int p0), .val (.int p1), .val (.int v1), .val (.int v2), .unset, .unset] [(.ref b101)])) _
    refine XS.dup X137.here hx rfl (hb hby at_24) rfl rfl ?_
    show Steps p.tables e below (T137.setTop (mkF m 25 #[.val (.int p0), .val (.int p1), .val (.int v1), .val (.int v2), .unset, .unset] [(.ref b101), (.ref b101)])) _
    refine XS.iconst X137.here hx rfl (hb hby at_25) ?_
    show Steps p.tables e below (T137.setTop (mkF m 26 #[.val (.int p0), .val (.int p1), .val (.int v1), .val (.int v2), .unset, .unset] [(.int (2 : Int32)), (.ref b101), (.ref b101)])) _
    refine st153 _ ?_
    show Steps p.tables e below (T153.setTop (mkF m 29 #[.val (.int p0), .val (.int p1), .val (.int v1), .val (.int v2), .unset, .unset] [(.ref u_Network_Shape_TREE), (.int (2 : Int32)), (.ref b101), (.ref b101)])) _
    refine st155 _ ?_
    show Steps p.tables e below (T155.setTop (mkF m 30 #[.val (.int p0), .val (.int p1), .val (.int v1), .val (.int v2), .unset, .unset] [(.ref b101)])) _
    refine XS.dup X155.here hx rfl (hb hby at_30) rfl rfl ?_
    show Steps p.tables e below (T155.setTop (mkF m 31 #[.val (.int p0), .val (.int p1), .val (.int v1), .val (.int v2), .unset, .unset] [(.ref b101), (.ref b101)])) _
    refine XS.iconst X155.here hx rfl (hb hby at_31) ?_
    show Steps p.tables e below (T155.setTop (mkF m 32 #[.val (.int p0), .val (.int p1), .val (.int v1), .val (.int v2), .unset, .unset] [(.int (3 : Int32)), (.ref b101), (.ref b101)])) _
    refine st171 _ ?_
    show Steps p.tables e below (T171.setTop (mkF m 35 #[.val (.int p0), .val (.int p1), .val (.int v1), .val (.int v2), .unset, .unset] [(.ref u_Network_Shape_GENERAL), (.int (3 : Int32)), (.ref b101), (.ref b101)])) _
    refine st173 _ ?_
    show Steps p.tables e below (T173.setTop (mkF m 36 #[.val (.int p0), .val (.int p1), .val (.int v1), .val (.int v2), .unset, .unset] [(.ref b101)])) _
    refine XS.astore X173.here hx rfl (hb hby at_36) rfl rfl (l' := #[.val (.int p0), .val (.int p1), .val (.int v1), .val (.int v2), .val (.ref b101), .unset]) rfl ?_
    exact kt
  refine own_go hgo189 ?_
  by_cases hs38_3 : v1 = (0 : Int32)
  · have hgo190 : ∀ t, Steps p.tables e below (T173.setTop (mkF m 40 #[.val (.int p0), .val (.int p1), .val (.int v1), .val (.int v2), .val (.ref b101), .unset] [(.int (33893 : Int32))])) t → Steps p.tables e below (T173.setTop (mkF m 38 #[.val (.int p0), .val (.int p1), .val (.int v1), .val (.int v2), .val (.ref b101), .unset] [])) t := by
      intro t kt
      show Steps p.tables e below (T173.setTop (mkF m 38 #[.val (.int p0), .val (.int p1), .val (.int v1), .val (.int v2), .val (.ref b101), .unset] [])) _
      refine X173.ldcInt hx hown (mvT hZ (hw _ (List.mem_of_getElem? (i := 12) rfl))) (g := (mkF m 38 #[.val (.int p0), .val (.int p1), .val (.int v1), .val (.int v2), .val (.ref b101), .unset] [])) rfl (hb hby at_38) _ ?_
      exact kt
    refine own_go hgo190 ?_
    by_cases hs40_4 : v2 = (0 : Int32)
    · obtain ⟨v6, hv6⟩ : ∃ z : Int32, z = (if (((33893 : Int32) >>> (((v1 * (4 : Int32)) + v2) &&& 31)) &&& (1 : Int32)) = (0 : Int32) then (0 : Int32) else (1 : Int32)) := ⟨_, rfl⟩
      obtain ⟨T193, lc193, X193, N193, e193, st193⟩ := own_mrg (n0 := n0) (h := h173) (g := (mkF m 48 #[.val (.int p0), .val (.int p1), .val (.int v1), .val (.int v2), .val (.ref b101), .unset] [(.int (((33893 : Int32) >>> (((v1 * (4 : Int32)) + v2) &&& 31)) &&& (1 : Int32)))])) (g' := (mkF m 56 #[.val (.int p0), .val (.int p1), .val (.int v1), .val (.int v2), .val (.ref b101), .unset] [(.int v6)])) X173 (by
        by_cases hc48_5 : (((33893 : Int32) >>> (((v1 * (4 : Int32)) + v2) &&& 31)) &&& (1 : Int32)) = (0 : Int32)
        · have hgo191 : ∀ t, Steps p.tables e below (T173.setTop (mkF m 56 #[.val (.int p0), .val (.int p1), .val (.int v1), .val (.int v2), .val (.ref b101), .unset] [(.int (0 : Int32))])) t → Steps p.tables e below (T173.setTop (mkF m 48 #[.val (.int p0), .val (.int p1), .val (.int v1), .val (.int v2), .val (.ref b101), .unset] [(.int (((33893 : Int32) >>> (((v1 * (4 : Int32)) + v2) &&& 31)) &&& (1 : Int32)))])) t := by
            intro t kt
            show Steps p.tables e below (T173.setTop (mkF m 48 #[.val (.int p0), .val (.int p1), .val (.int v1), .val (.int v2), .val (.ref b101), .unset] [(.int (((33893 : Int32) >>> (((v1 * (4 : Int32)) + v2) &&& 31)) &&& (1 : Int32)))])) _
            refine XS.ifYes X173.here hx rfl (pc0 := 48) (pc' := 55) rfl (hb hby at_48) rfl ((if0 _ _).trans (teq hc48_5).1) (by decide) (by decide) ?_
            show Steps p.tables e below (T173.setTop (mkF m 55 #[.val (.int p0), .val (.int p1), .val (.int v1), .val (.int v2), .val (.ref b101), .unset] [])) _
            refine XS.iconst X173.here hx rfl (hb hby at_55) ?_
            exact kt
          refine own_arm hgo191 ?_
          exact own_armEnd X173 N188 e173 (by rw [hv6.trans (if_pos hc48_5)])
        · have hgo192 : ∀ t, Steps p.tables e below (T173.setTop (mkF m 56 #[.val (.int p0), .val (.int p1), .val (.int v1), .val (.int v2), .val (.ref b101), .unset] [(.int (1 : Int32))])) t → Steps p.tables e below (T173.setTop (mkF m 48 #[.val (.int p0), .val (.int p1), .val (.int v1), .val (.int v2), .val (.ref b101), .unset] [(.int (((33893 : Int32) >>> (((v1 * (4 : Int32)) + v2) &&& 31)) &&& (1 : Int32)))])) t := by
            intro t kt
            show Steps p.tables e below (T173.setTop (mkF m 48 #[.val (.int p0), .val (.int p1), .val (.int v1), .val (.int v2), .val (.ref b101), .unset] [(.int (((33893 : Int32) >>> (((v1 * (4 : Int32)) + v2) &&& 31)) &&& (1 : Int32)))])) _
            refine XS.ifNo X173.here hx rfl (hb hby at_48) rfl ((if0 _ _).trans (feq hc48_5).1) ?_
            show Steps p.tables e below (T173.setTop (mkF m 51 #[.val (.int p0), .val (.int p1), .val (.int v1), .val (.int v2), .val (.ref b101), .unset] [])) _
            refine XS.iconst X173.here hx rfl (hb hby at_51) ?_
            show Steps p.tables e below (T173.setTop (mkF m 52 #[.val (.int p0), .val (.int p1), .val (.int v1), .val (.int v2), .val (.ref b101), .unset] [(.int (1 : Int32))])) _
            refine XS.goto X173.here hx rfl (pc0 := 52) (pc' := 56) rfl (hb hby at_52) (by decide) (by decide) ?_
            exact kt
          refine own_arm hgo192 ?_
          exact own_armEnd X173 N188 e173 (by rw [hv6.trans (if_neg hc48_5)]))
      have hin61_194 : ¬ v1 < 0 ∧ v1.toNatClampNeg < 4 := by rw [hs38_3]; decide
      have hin65_195 : ¬ v2 < 0 ∧ v2.toNatClampNeg < 4 := by rw [hs40_4]; decide
      obtain ⟨cq196, kq196, q196a, q196b, q196c⟩ := isOf hZ e193 F175
      obtain ⟨_, _, ⟨T196, L196, k196, n196⟩, -, X196, ⟨Lc196, hQ196, l196, y196, z196⟩, st196⟩ := X193.virtualBack hx (y := (⟨"com/example/swapgraph/swapgraph/Network$Shape", "within", "(Lcom/example/swapgraph/swapgraph/Network$Shape;)Z"⟩ : MethodName)) (z := (⟨"com/example/swapgraph/swapgraph/Network$Shape", "within", "(Lcom/example/swapgraph/swapgraph/Network$Shape;)Z"⟩ : MethodName)) hown (mvT hZ (hw _ (List.mem_of_getElem? (i := 13) rfl))) (mvT hZ (hw _ (List.mem_of_getElem? (i := 14) rfl))) (notFace_of_selects (args := #[]) (mvT hZ (hw _ (List.mem_of_getElem? (i := 16) rfl)))) (mvT hZ (hw _ (List.mem_of_getElem? (i := 16) rfl))) (mvT hZ (hw _ (List.mem_of_getElem? (i := 15) rfl))) (by decide) (backOf (W := 0) (rm1 l Z a0 hw [] u_Network_Shape_PATH u_Network_Shape_PATH u_Network_Shape_TREE u_Network_Shape_GENERAL h173 n0 Z186 F178 F180) hZ (hw _ (List.mem_of_getElem? (i := 17) rfl)) (hw _ (List.mem_of_getElem? (i := 3) rfl)) (by decide) (by decide)) q196a q196c (g := (mkF m 66 #[.val (.int p0), .val (.int p1), .val (.int v1), .val (.int v2), .val (.ref b101), .val (.int v6)] [(.ref u_Network_Shape_PATH), (.ref u_Network_Shape_PATH)])) rfl (by rw [hml]; rfl) (Steps.refl _) (argsL := [(.ref u_Network_Shape_PATH)]) (rest := []) (lenOf pd1 rfl) rfl (by show 2 * 0 + _ ≤ _; exact Nat.le_of_eq rfl) (hb hby at_66) (fun _ _ => ⟨rfl, e193, (by decide : 1 + 0 ≤ _), (by decide : 4 + 0 ≤ _)⟩)
      dsimp only [Pt.U, Pt.locs, Pt.cells, Pt.slots] at X196 l196 y196 z196 st196 hQ196
      subst l196 y196 z196
      obtain ⟨rfl, N196q, e196⟩ := hQ196
      have N196 := Fr.app N193 N196q
      obtain ⟨v8, hv8⟩ : ∃ z : Int32, z = (if (own_r1 u_Network_Shape_PATH u_Network_Shape_PATH u_Network_Shape_TREE u_Network_Shape_GENERAL) = v6 then (1 : Int32) else (0 : Int32)) := ⟨_, rfl⟩
      obtain ⟨T199, lc199, X199, N199, e199, st199⟩ := own_mrg (n0 := n0) (h := h173) (g := (mkF m 71 #[.val (.int p0), .val (.int p1), .val (.int v1), .val (.int v2), .val (.ref b101), .val (.int v6)] [(.int v6), (.int (own_r1 u_Network_Shape_PATH u_Network_Shape_PATH u_Network_Shape_TREE u_Network_Shape_GENERAL))])) (g' := (mkF m 79 #[.val (.int p0), .val (.int p1), .val (.int v1), .val (.int v2), .val (.ref b101), .val (.int v6)] [(.int v8)])) X196 (by
        by_cases hc71_7 : (own_r1 u_Network_Shape_PATH u_Network_Shape_PATH u_Network_Shape_TREE u_Network_Shape_GENERAL) = v6
        · have hgo197 : ∀ t, Steps p.tables e below (T196.setTop (mkF m 79 #[.val (.int p0), .val (.int p1), .val (.int v1), .val (.int v2), .val (.ref b101), .val (.int v6)] [(.int (1 : Int32))])) t → Steps p.tables e below (T196.setTop (mkF m 71 #[.val (.int p0), .val (.int p1), .val (.int v1), .val (.int v2), .val (.ref b101), .val (.int v6)] [(.int v6), (.int (own_r1 u_Network_Shape_PATH u_Network_Shape_PATH u_Network_Shape_TREE u_Network_Shape_GENERAL))])) t := by
            intro t kt
            show Steps p.tables e below (T196.setTop (mkF m 71 #[.val (.int p0), .val (.int p1), .val (.int v1), .val (.int v2), .val (.ref b101), .val (.int v6)] [(.int v6), (.int (own_r1 u_Network_Shape_PATH u_Network_Shape_PATH u_Network_Shape_TREE u_Network_Shape_GENERAL))])) _
            refine XS.icmpNo X196.here hx rfl (hb hby at_71) rfl (teq hc71_7).2 ?_
            show Steps p.tables e below (T196.setTop (mkF m 74 #[.val (.int p0), .val (.int p1), .val (.int v1), .val (.int v2), .val (.ref b101), .val (.int v6)] [])) _
            refine XS.iconst X196.here hx rfl (hb hby at_74) ?_
            show Steps p.tables e below (T196.setTop (mkF m 75 #[.val (.int p0), .val (.int p1), .val (.int v1), .val (.int v2), .val (.ref b101), .val (.int v6)] [(.int (1 : Int32))])) _
            refine XS.goto X196.here hx rfl (pc0 := 75) (pc' := 79) rfl (hb hby at_75) (by decide) (by decide) ?_
            exact kt
          refine own_arm hgo197 ?_
          exact own_armEnd X196 N196 e196 (by rw [hv8.trans (if_pos hc71_7)])
        · have hgo198 : ∀ t, Steps p.tables e below (T196.setTop (mkF m 79 #[.val (.int p0), .val (.int p1), .val (.int v1), .val (.int v2), .val (.ref b101), .val (.int v6)] [(.int (0 : Int32))])) t → Steps p.tables e below (T196.setTop (mkF m 71 #[.val (.int p0), .val (.int p1), .val (.int v1), .val (.int v2), .val (.ref b101), .val (.int v6)] [(.int v6), (.int (own_r1 u_Network_Shape_PATH u_Network_Shape_PATH u_Network_Shape_TREE u_Network_Shape_GENERAL))])) t := by
            intro t kt
            show Steps p.tables e below (T196.setTop (mkF m 71 #[.val (.int p0), .val (.int p1), .val (.int v1), .val (.int v2), .val (.ref b101), .val (.int v6)] [(.int v6), (.int (own_r1 u_Network_Shape_PATH u_Network_Shape_PATH u_Network_Shape_TREE u_Network_Shape_GENERAL))])) _
            refine XS.icmpYes X196.here hx rfl (pc0 := 71) (pc' := 78) rfl (hb hby at_71) rfl (feq hc71_7).2 (by decide) (by decide) ?_
            show Steps p.tables e below (T196.setTop (mkF m 78 #[.val (.int p0), .val (.int p1), .val (.int v1), .val (.int v2), .val (.ref b101), .val (.int v6)] [])) _
            refine XS.iconst X196.here hx rfl (hb hby at_78) ?_
            exact kt
          refine own_arm hgo198 ?_
          exact own_armEnd X196 N196 e196 (by rw [hv8.trans (if_neg hc71_7)]))
      have hgo200 : ∀ t, Steps p.tables e below (T199.setTop (mkF m 79 #[.val (.int p0), .val (.int p1), .val (.int v1), .val (.int v2), .val (.ref b101), .val (.int v6)] [(.int v8)])) t → Steps p.tables e below (T173.setTop (mkF m 40 #[.val (.int p0), .val (.int p1), .val (.int v1), .val (.int v2), .val (.ref b101), .unset] [(.int (33893 : Int32))])) t := by
        intro t kt
        show Steps p.tables e below (T173.setTop (mkF m 40 #[.val (.int p0), .val (.int p1), .val (.int v1), .val (.int v2), .val (.ref b101), .unset] [(.int (33893 : Int32))])) _
        refine XS.iloadN X173.here hx rfl (hb hby at_40) rfl ?_
        show Steps p.tables e below (T173.setTop (mkF m 41 #[.val (.int p0), .val (.int p1), .val (.int v1), .val (.int v2), .val (.ref b101), .unset] [(.int v1), (.int (33893 : Int32))])) _
        refine XS.iconst X173.here hx rfl (hb hby at_41) ?_
        show Steps p.tables e below (T173.setTop (mkF m 42 #[.val (.int p0), .val (.int p1), .val (.int v1), .val (.int v2), .val (.ref b101), .unset] [(.int (4 : Int32)), (.int v1), (.int (33893 : Int32))])) _
        refine XS.imul X173.here hx rfl (hb hby at_42) rfl ?_
        show Steps p.tables e below (T173.setTop (mkF m 43 #[.val (.int p0), .val (.int p1), .val (.int v1), .val (.int v2), .val (.ref b101), .unset] [(.int (v1 * (4 : Int32))), (.int (33893 : Int32))])) _
        refine XS.iloadN X173.here hx rfl (hb hby at_43) rfl ?_
        show Steps p.tables e below (T173.setTop (mkF m 44 #[.val (.int p0), .val (.int p1), .val (.int v1), .val (.int v2), .val (.ref b101), .unset] [(.int v2), (.int (v1 * (4 : Int32))), (.int (33893 : Int32))])) _
        refine XS.iadd X173.here hx rfl (hb hby at_44) rfl ?_
        show Steps p.tables e below (T173.setTop (mkF m 45 #[.val (.int p0), .val (.int p1), .val (.int v1), .val (.int v2), .val (.ref b101), .unset] [(.int ((v1 * (4 : Int32)) + v2)), (.int (33893 : Int32))])) _
        refine XS.ishr X173.here hx rfl (hb hby at_45) rfl ?_
        show Steps p.tables e below (T173.setTop (mkF m 46 #[.val (.int p0), .val (.int p1), .val (.int v1), .val (.int v2), .val (.ref b101), .unset] [(.int ((33893 : Int32) >>> (((v1 * (4 : Int32)) + v2) &&& 31)))])) _
        refine XS.iconst X173.here hx rfl (hb hby at_46) ?_
        show Steps p.tables e below (T173.setTop (mkF m 47 #[.val (.int p0), .val (.int p1), .val (.int v1), .val (.int v2), .val (.ref b101), .unset] [(.int (1 : Int32)), (.int ((33893 : Int32) >>> (((v1 * (4 : Int32)) + v2) &&& 31)))])) _
        refine XS.iand X173.here hx rfl (hb hby at_47) rfl ?_
        show Steps p.tables e below (T173.setTop (mkF m 48 #[.val (.int p0), .val (.int p1), .val (.int v1), .val (.int v2), .val (.ref b101), .unset] [(.int (((33893 : Int32) >>> (((v1 * (4 : Int32)) + v2) &&& 31)) &&& (1 : Int32)))])) _
        refine st193 _ ?_
        show Steps p.tables e below (T193.setTop (mkF m 56 #[.val (.int p0), .val (.int p1), .val (.int v1), .val (.int v2), .val (.ref b101), .unset] [(.int v6)])) _
        refine XS.istore X193.here hx rfl (hb hby at_56) rfl (l' := #[.val (.int p0), .val (.int p1), .val (.int v1), .val (.int v2), .val (.ref b101), .val (.int v6)]) rfl ?_
        show Steps p.tables e below (T193.setTop (mkF m 58 #[.val (.int p0), .val (.int p1), .val (.int v1), .val (.int v2), .val (.ref b101), .val (.int v6)] [])) _
        refine XS.aload X193.here hx rfl (hb hby at_58) rfl rfl ?_
        show Steps p.tables e below (T193.setTop (mkF m 60 #[.val (.int p0), .val (.int p1), .val (.int v1), .val (.int v2), .val (.ref b101), .val (.int v6)] [(.ref b101)])) _
        refine XS.iloadN X193.here hx rfl (hb hby at_60) rfl ?_
        show Steps p.tables e below (T193.setTop (mkF m 61 #[.val (.int p0), .val (.int p1), .val (.int v1), .val (.int v2), .val (.ref b101), .val (.int v6)] [(.int v1), (.ref b101)])) _
        refine own_ldR X193 hx hZ e193 B173n (j := v1) (v := (.ref u_Network_Shape_PATH)) hin61_194 (by rw [hs38_3]; rfl) (g := (mkF m 61 #[.val (.int p0), .val (.int p1), .val (.int v1), .val (.int v2), .val (.ref b101), .val (.int v6)] [(.int v1), (.ref b101)])) rfl rfl (hb hby at_61) _ ?_
        show Steps p.tables e below (T193.setTop (mkF m 62 #[.val (.int p0), .val (.int p1), .val (.int v1), .val (.int v2), .val (.ref b101), .val (.int v6)] [(.ref u_Network_Shape_PATH)])) _
        refine XS.aload X193.here hx rfl (hb hby at_62) rfl rfl ?_
        show Steps p.tables e below (T193.setTop (mkF m 64 #[.val (.int p0), .val (.int p1), .val (.int v1), .val (.int v2), .val (.ref b101), .val (.int v6)] [(.ref b101), (.ref u_Network_Shape_PATH)])) _
        refine XS.iloadN X193.here hx rfl (hb hby at_64) rfl ?_
        show Steps p.tables e below (T193.setTop (mkF m 65 #[.val (.int p0), .val (.int p1), .val (.int v1), .val (.int v2), .val (.ref b101), .val (.int v6)] [(.int v2), (.ref b101), (.ref u_Network_Shape_PATH)])) _
        refine own_ldR X193 hx hZ e193 B173n (j := v2) (v := (.ref u_Network_Shape_PATH)) hin65_195 (by rw [hs40_4]; rfl) (g := (mkF m 65 #[.val (.int p0), .val (.int p1), .val (.int v1), .val (.int v2), .val (.ref b101), .val (.int v6)] [(.int v2), (.ref b101), (.ref u_Network_Shape_PATH)])) rfl rfl (hb hby at_65) _ ?_
        show Steps p.tables e below (T193.setTop (mkF m 66 #[.val (.int p0), .val (.int p1), .val (.int v1), .val (.int v2), .val (.ref b101), .val (.int v6)] [(.ref u_Network_Shape_PATH), (.ref u_Network_Shape_PATH)])) _
        refine st196.trans ?_
        show Steps p.tables e below (T196.setTop (mkF m 69 #[.val (.int p0), .val (.int p1), .val (.int v1), .val (.int v2), .val (.ref b101), .val (.int v6)] [(.int (own_r1 u_Network_Shape_PATH u_Network_Shape_PATH u_Network_Shape_TREE u_Network_Shape_GENERAL))])) _
        refine XS.iload X196.here hx rfl (hb hby at_69) rfl ?_
        show Steps p.tables e below (T196.setTop (mkF m 71 #[.val (.int p0), .val (.int p1), .val (.int v1), .val (.int v2), .val (.ref b101), .val (.int v6)] [(.int v6), (.int (own_r1 u_Network_Shape_PATH u_Network_Shape_PATH u_Network_Shape_TREE u_Network_Shape_GENERAL))])) _
        refine st199 _ ?_
        exact kt
      refine own_go hgo200 ?_
      have hz201 : v8 = 1 := own_leaf0 (p0 := p0) (p1 := p1) (u_Network_Shape_PATH := u_Network_Shape_PATH) (u_Network_Shape_STAR := u_Network_Shape_STAR) (u_Network_Shape_TREE := u_Network_Shape_TREE) (u_Network_Shape_GENERAL := u_Network_Shape_GENERAL) hv1 hv2 hv6 hv8 hs38_3 hs40_4 hne01 hne02 hne03 hne10 hne12 hne13 hne20 hne21 hne23 hne30 hne31 hne32
      exact own_retZ X199 hx Bd.returns Bd.notSynchronized (hb hby at_79) (by decide) (by decide) (Or.inr hz201) ⟨by rw [hz201], N199⟩
    by_cases hs40_9 : v2 = (1 : Int32)
    · obtain ⟨v11, hv11⟩ : ∃ z : Int32, z = (if (((33893 : Int32) >>> (((v1 * (4 : Int32)) + v2) &&& 31)) &&& (1 : Int32)) = (0 : Int32) then (0 : Int32) else (1 : Int32)) := ⟨_, rfl⟩
      obtain ⟨T204, lc204, X204, N204, e204, st204⟩ := own_mrg (n0 := n0) (h := h173) (g := (mkF m 48 #[.val (.int p0), .val (.int p1), .val (.int v1), .val (.int v2), .val (.ref b101), .unset] [(.int (((33893 : Int32) >>> (((v1 * (4 : Int32)) + v2) &&& 31)) &&& (1 : Int32)))])) (g' := (mkF m 56 #[.val (.int p0), .val (.int p1), .val (.int v1), .val (.int v2), .val (.ref b101), .unset] [(.int v11)])) X173 (by
        by_cases hc48_10 : (((33893 : Int32) >>> (((v1 * (4 : Int32)) + v2) &&& 31)) &&& (1 : Int32)) = (0 : Int32)
        · have hgo202 : ∀ t, Steps p.tables e below (T173.setTop (mkF m 56 #[.val (.int p0), .val (.int p1), .val (.int v1), .val (.int v2), .val (.ref b101), .unset] [(.int (0 : Int32))])) t → Steps p.tables e below (T173.setTop (mkF m 48 #[.val (.int p0), .val (.int p1), .val (.int v1), .val (.int v2), .val (.ref b101), .unset] [(.int (((33893 : Int32) >>> (((v1 * (4 : Int32)) + v2) &&& 31)) &&& (1 : Int32)))])) t := by
            intro t kt
            show Steps p.tables e below (T173.setTop (mkF m 48 #[.val (.int p0), .val (.int p1), .val (.int v1), .val (.int v2), .val (.ref b101), .unset] [(.int (((33893 : Int32) >>> (((v1 * (4 : Int32)) + v2) &&& 31)) &&& (1 : Int32)))])) _
            refine XS.ifYes X173.here hx rfl (pc0 := 48) (pc' := 55) rfl (hb hby at_48) rfl ((if0 _ _).trans (teq hc48_10).1) (by decide) (by decide) ?_
            show Steps p.tables e below (T173.setTop (mkF m 55 #[.val (.int p0), .val (.int p1), .val (.int v1), .val (.int v2), .val (.ref b101), .unset] [])) _
            refine XS.iconst X173.here hx rfl (hb hby at_55) ?_
            exact kt
          refine own_arm hgo202 ?_
          exact own_armEnd X173 N188 e173 (by rw [hv11.trans (if_pos hc48_10)])
        · have hgo203 : ∀ t, Steps p.tables e below (T173.setTop (mkF m 56 #[.val (.int p0), .val (.int p1), .val (.int v1), .val (.int v2), .val (.ref b101), .unset] [(.int (1 : Int32))])) t → Steps p.tables e below (T173.setTop (mkF m 48 #[.val (.int p0), .val (.int p1), .val (.int v1), .val (.int v2), .val (.ref b101), .unset] [(.int (((33893 : Int32) >>> (((v1 * (4 : Int32)) + v2) &&& 31)) &&& (1 : Int32)))])) t := by
            intro t kt
            show Steps p.tables e below (T173.setTop (mkF m 48 #[.val (.int p0), .val (.int p1), .val (.int v1), .val (.int v2), .val (.ref b101), .unset] [(.int (((33893 : Int32) >>> (((v1 * (4 : Int32)) + v2) &&& 31)) &&& (1 : Int32)))])) _
            refine XS.ifNo X173.here hx rfl (hb hby at_48) rfl ((if0 _ _).trans (feq hc48_10).1) ?_
            show Steps p.tables e below (T173.setTop (mkF m 51 #[.val (.int p0), .val (.int p1), .val (.int v1), .val (.int v2), .val (.ref b101), .unset] [])) _
            refine XS.iconst X173.here hx rfl (hb hby at_51) ?_
            show Steps p.tables e below (T173.setTop (mkF m 52 #[.val (.int p0), .val (.int p1), .val (.int v1), .val (.int v2), .val (.ref b101), .unset] [(.int (1 : Int32))])) _
            refine XS.goto X173.here hx rfl (pc0 := 52) (pc' := 56) rfl (hb hby at_52) (by decide) (by decide) ?_
            exact kt
          refine own_arm hgo203 ?_
          exact own_armEnd X173 N188 e173 (by rw [hv11.trans (if_neg hc48_10)]))
      have hin61_205 : ¬ v1 < 0 ∧ v1.toNatClampNeg < 4 := by rw [hs38_3]; decide
      have hin65_206 : ¬ v2 < 0 ∧ v2.toNatClampNeg < 4 := by rw [hs40_9]; decide
      obtain ⟨cq207, kq207, q207a, q207b, q207c⟩ := isOf hZ e204 F175
      obtain ⟨_, _, ⟨T207, L207, k207, n207⟩, -, X207, ⟨Lc207, hQ207, l207, y207, z207⟩, st207⟩ := X204.virtualBack hx (y := (⟨"com/example/swapgraph/swapgraph/Network$Shape", "within", "(Lcom/example/swapgraph/swapgraph/Network$Shape;)Z"⟩ : MethodName)) (z := (⟨"com/example/swapgraph/swapgraph/Network$Shape", "within", "(Lcom/example/swapgraph/swapgraph/Network$Shape;)Z"⟩ : MethodName)) hown (mvT hZ (hw _ (List.mem_of_getElem? (i := 13) rfl))) (mvT hZ (hw _ (List.mem_of_getElem? (i := 14) rfl))) (notFace_of_selects (args := #[]) (mvT hZ (hw _ (List.mem_of_getElem? (i := 16) rfl)))) (mvT hZ (hw _ (List.mem_of_getElem? (i := 16) rfl))) (mvT hZ (hw _ (List.mem_of_getElem? (i := 15) rfl))) (by decide) (backOf (W := 0) (rm1 l Z a0 hw [] u_Network_Shape_PATH u_Network_Shape_STAR u_Network_Shape_TREE u_Network_Shape_GENERAL h173 n0 Z186 F178 F180) hZ (hw _ (List.mem_of_getElem? (i := 17) rfl)) (hw _ (List.mem_of_getElem? (i := 3) rfl)) (by decide) (by decide)) q207a q207c (g := (mkF m 66 #[.val (.int p0), .val (.int p1), .val (.int v1), .val (.int v2), .val (.ref b101), .val (.int v11)] [(.ref u_Network_Shape_STAR), (.ref u_Network_Shape_PATH)])) rfl (by rw [hml]; rfl) (Steps.refl _) (argsL := [(.ref u_Network_Shape_STAR)]) (rest := []) (lenOf pd1 rfl) rfl (by show 2 * 0 + _ ≤ _; exact Nat.le_of_eq rfl) (hb hby at_66) (fun _ _ => ⟨rfl, e204, (by decide : 1 + 0 ≤ _), (by decide : 4 + 0 ≤ _)⟩)
      dsimp only [Pt.U, Pt.locs, Pt.cells, Pt.slots] at X207 l207 y207 z207 st207 hQ207
      subst l207 y207 z207
      obtain ⟨rfl, N207q, e207⟩ := hQ207
      have N207 := Fr.app N204 N207q
      obtain ⟨v13, hv13⟩ : ∃ z : Int32, z = (if (own_r1 u_Network_Shape_PATH u_Network_Shape_STAR u_Network_Shape_TREE u_Network_Shape_GENERAL) = v11 then (1 : Int32) else (0 : Int32)) := ⟨_, rfl⟩
      obtain ⟨T210, lc210, X210, N210, e210, st210⟩ := own_mrg (n0 := n0) (h := h173) (g := (mkF m 71 #[.val (.int p0), .val (.int p1), .val (.int v1), .val (.int v2), .val (.ref b101), .val (.int v11)] [(.int v11), (.int (own_r1 u_Network_Shape_PATH u_Network_Shape_STAR u_Network_Shape_TREE u_Network_Shape_GENERAL))])) (g' := (mkF m 79 #[.val (.int p0), .val (.int p1), .val (.int v1), .val (.int v2), .val (.ref b101), .val (.int v11)] [(.int v13)])) X207 (by
        by_cases hc71_12 : (own_r1 u_Network_Shape_PATH u_Network_Shape_STAR u_Network_Shape_TREE u_Network_Shape_GENERAL) = v11
        · have hgo208 : ∀ t, Steps p.tables e below (T207.setTop (mkF m 79 #[.val (.int p0), .val (.int p1), .val (.int v1), .val (.int v2), .val (.ref b101), .val (.int v11)] [(.int (1 : Int32))])) t → Steps p.tables e below (T207.setTop (mkF m 71 #[.val (.int p0), .val (.int p1), .val (.int v1), .val (.int v2), .val (.ref b101), .val (.int v11)] [(.int v11), (.int (own_r1 u_Network_Shape_PATH u_Network_Shape_STAR u_Network_Shape_TREE u_Network_Shape_GENERAL))])) t := by
            intro t kt
            show Steps p.tables e below (T207.setTop (mkF m 71 #[.val (.int p0), .val (.int p1), .val (.int v1), .val (.int v2), .val (.ref b101), .val (.int v11)] [(.int v11), (.int (own_r1 u_Network_Shape_PATH u_Network_Shape_STAR u_Network_Shape_TREE u_Network_Shape_GENERAL))])) _
            refine XS.icmpNo X207.here hx rfl (hb hby at_71) rfl (teq hc71_12).2 ?_
            show Steps p.tables e below (T207.setTop (mkF m 74 #[.val (.int p0), .val (.int p1), .val (.int v1), .val (.int v2), .val (.ref b101), .val (.int v11)] [])) _
            refine XS.iconst X207.here hx rfl (hb hby at_74) ?_
            show Steps p.tables e below (T207.setTop (mkF m 75 #[.val (.int p0), .val (.int p1), .val (.int v1), .val (.int v2), .val (.ref b101), .val (.int v11)] [(.int (1 : Int32))])) _
            refine XS.goto X207.here hx rfl (pc0 := 75) (pc' := 79) rfl (hb hby at_75) (by decide) (by decide) ?_
            exact kt
          refine own_arm hgo208 ?_
          exact own_armEnd X207 N207 e207 (by rw [hv13.trans (if_pos hc71_12)])
        · have hgo209 : ∀ t, Steps p.tables e below (T207.setTop (mkF m 79 #[.val (.int p0), .val (.int p1), .val (.int v1), .val (.int v2), .val (.ref b101), .val (.int v11)] [(.int (0 : Int32))])) t → Steps p.tables e below (T207.setTop (mkF m 71 #[.val (.int p0), .val (.int p1), .val (.int v1), .val (.int v2), .val (.ref b101), .val (.int v11)] [(.int v11), (.int (own_r1 u_Network_Shape_PATH u_Network_Shape_STAR u_Network_Shape_TREE u_Network_Shape_GENERAL))])) t := by
            intro t kt
            show Steps p.tables e below (T207.setTop (mkF m 71 #[.val (.int p0), .val (.int p1), .val (.int v1), .val (.int v2), .val (.ref b101), .val (.int v11)] [(.int v11), (.int (own_r1 u_Network_Shape_PATH u_Network_Shape_STAR u_Network_Shape_TREE u_Network_Shape_GENERAL))])) _
            refine XS.icmpYes X207.here hx rfl (pc0 := 71) (pc' := 78) rfl (hb hby at_71) rfl (feq hc71_12).2 (by decide) (by decide) ?_
            show Steps p.tables e below (T207.setTop (mkF m 78 #[.val (.int p0), .val (.int p1), .val (.int v1), .val (.int v2), .val (.ref b101), .val (.int v11)] [])) _
            refine XS.iconst X207.here hx rfl (hb hby at_78) ?_
            exact kt
          refine own_arm hgo209 ?_
          exact own_armEnd X207 N207 e207 (by rw [hv13.trans (if_neg hc71_12)]))
      have hgo211 : ∀ t, Steps p.tables e below (T210.setTop (mkF m 79 #[.val (.int p0), .val (.int p1), .val (.int v1), .val (.int v2), .val (.ref b101), .val (.int v11)] [(.int v13)])) t → Steps p.tables e below (T173.setTop (mkF m 40 #[.val (.int p0), .val (.int p1), .val (.int v1), .val (.int v2), .val (.ref b101), .unset] [(.int (33893 : Int32))])) t := by
        intro t kt
        show Steps p.tables e below (T173.setTop (mkF m 40 #[.val (.int p0), .val (.int p1), .val (.int v1), .val (.int v2), .val (.ref b101), .unset] [(.int (33893 : Int32))])) _
        refine XS.iloadN X173.here hx rfl (hb hby at_40) rfl ?_
        show Steps p.tables e below (T173.setTop (mkF m 41 #[.val (.int p0), .val (.int p1), .val (.int v1), .val (.int v2), .val (.ref b101), .unset] [(.int v1), (.int (33893 : Int32))])) _
        refine XS.iconst X173.here hx rfl (hb hby at_41) ?_
        show Steps p.tables e below (T173.setTop (mkF m 42 #[.val (.int p0), .val (.int p1), .val (.int v1), .val (.int v2), .val (.ref b101), .unset] [(.int (4 : Int32)), (.int v1), (.int (33893 : Int32))])) _
        refine XS.imul X173.here hx rfl (hb hby at_42) rfl ?_
        show Steps p.tables e below (T173.setTop (mkF m 43 #[.val (.int p0), .val (.int p1), .val (.int v1), .val (.int v2), .val (.ref b101), .unset] [(.int (v1 * (4 : Int32))), (.int (33893 : Int32))])) _
        refine XS.iloadN X173.here hx rfl (hb hby at_43) rfl ?_
        show Steps p.tables e below (T173.setTop (mkF m 44 #[.val (.int p0), .val (.int p1), .val (.int v1), .val (.int v2), .val (.ref b101), .unset] [(.int v2), (.int (v1 * (4 : Int32))), (.int (33893 : Int32))])) _
        refine XS.iadd X173.here hx rfl (hb hby at_44) rfl ?_
        show Steps p.tables e below (T173.setTop (mkF m 45 #[.val (.int p0), .val (.int p1), .val (.int v1), .val (.int v2), .val (.ref b101), .unset] [(.int ((v1 * (4 : Int32)) + v2)), (.int (33893 : Int32))])) _
        refine XS.ishr X173.here hx rfl (hb hby at_45) rfl ?_
        show Steps p.tables e below (T173.setTop (mkF m 46 #[.val (.int p0), .val (.int p1), .val (.int v1), .val (.int v2), .val (.ref b101), .unset] [(.int ((33893 : Int32) >>> (((v1 * (4 : Int32)) + v2) &&& 31)))])) _
        refine XS.iconst X173.here hx rfl (hb hby at_46) ?_
        show Steps p.tables e below (T173.setTop (mkF m 47 #[.val (.int p0), .val (.int p1), .val (.int v1), .val (.int v2), .val (.ref b101), .unset] [(.int (1 : Int32)), (.int ((33893 : Int32) >>> (((v1 * (4 : Int32)) + v2) &&& 31)))])) _
        refine XS.iand X173.here hx rfl (hb hby at_47) rfl ?_
        show Steps p.tables e below (T173.setTop (mkF m 48 #[.val (.int p0), .val (.int p1), .val (.int v1), .val (.int v2), .val (.ref b101), .unset] [(.int (((33893 : Int32) >>> (((v1 * (4 : Int32)) + v2) &&& 31)) &&& (1 : Int32)))])) _
        refine st204 _ ?_
        show Steps p.tables e below (T204.setTop (mkF m 56 #[.val (.int p0), .val (.int p1), .val (.int v1), .val (.int v2), .val (.ref b101), .unset] [(.int v11)])) _
        refine XS.istore X204.here hx rfl (hb hby at_56) rfl (l' := #[.val (.int p0), .val (.int p1), .val (.int v1), .val (.int v2), .val (.ref b101), .val (.int v11)]) rfl ?_
        show Steps p.tables e below (T204.setTop (mkF m 58 #[.val (.int p0), .val (.int p1), .val (.int v1), .val (.int v2), .val (.ref b101), .val (.int v11)] [])) _
        refine XS.aload X204.here hx rfl (hb hby at_58) rfl rfl ?_
        show Steps p.tables e below (T204.setTop (mkF m 60 #[.val (.int p0), .val (.int p1), .val (.int v1), .val (.int v2), .val (.ref b101), .val (.int v11)] [(.ref b101)])) _
        refine XS.iloadN X204.here hx rfl (hb hby at_60) rfl ?_
        show Steps p.tables e below (T204.setTop (mkF m 61 #[.val (.int p0), .val (.int p1), .val (.int v1), .val (.int v2), .val (.ref b101), .val (.int v11)] [(.int v1), (.ref b101)])) _
        refine own_ldR X204 hx hZ e204 B173n (j := v1) (v := (.ref u_Network_Shape_PATH)) hin61_205 (by rw [hs38_3]; rfl) (g := (mkF m 61 #[.val (.int p0), .val (.int p1), .val (.int v1), .val (.int v2), .val (.ref b101), .val (.int v11)] [(.int v1), (.ref b101)])) rfl rfl (hb hby at_61) _ ?_
        show Steps p.tables e below (T204.setTop (mkF m 62 #[.val (.int p0), .val (.int p1), .val (.int v1), .val (.int v2), .val (.ref b101), .val (.int v11)] [(.ref u_Network_Shape_PATH)])) _
        refine XS.aload X204.here hx rfl (hb hby at_62) rfl rfl ?_
        show Steps p.tables e below (T204.setTop (mkF m 64 #[.val (.int p0), .val (.int p1), .val (.int v1), .val (.int v2), .val (.ref b101), .val (.int v11)] [(.ref b101), (.ref u_Network_Shape_PATH)])) _
        refine XS.iloadN X204.here hx rfl (hb hby at_64) rfl ?_
        show Steps p.tables e below (T204.setTop (mkF m 65 #[.val (.int p0), .val (.int p1), .val (.int v1), .val (.int v2), .val (.ref b101), .val (.int v11)] [(.int v2), (.ref b101), (.ref u_Network_Shape_PATH)])) _
        refine own_ldR X204 hx hZ e204 B173n (j := v2) (v := (.ref u_Network_Shape_STAR)) hin65_206 (by rw [hs40_9]; rfl) (g := (mkF m 65 #[.val (.int p0), .val (.int p1), .val (.int v1), .val (.int v2), .val (.ref b101), .val (.int v11)] [(.int v2), (.ref b101), (.ref u_Network_Shape_PATH)])) rfl rfl (hb hby at_65) _ ?_
        show Steps p.tables e below (T204.setTop (mkF m 66 #[.val (.int p0), .val (.int p1), .val (.int v1), .val (.int v2), .val (.ref b101), .val (.int v11)] [(.ref u_Network_Shape_STAR), (.ref u_Network_Shape_PATH)])) _
        refine st207.trans ?_
        show Steps p.tables e below (T207.setTop (mkF m 69 #[.val (.int p0), .val (.int p1), .val (.int v1), .val (.int v2), .val (.ref b101), .val (.int v11)] [(.int (own_r1 u_Network_Shape_PATH u_Network_Shape_STAR u_Network_Shape_TREE u_Network_Shape_GENERAL))])) _
        refine XS.iload X207.here hx rfl (hb hby at_69) rfl ?_
        show Steps p.tables e below (T207.setTop (mkF m 71 #[.val (.int p0), .val (.int p1), .val (.int v1), .val (.int v2), .val (.ref b101), .val (.int v11)] [(.int v11), (.int (own_r1 u_Network_Shape_PATH u_Network_Shape_STAR u_Network_Shape_TREE u_Network_Shape_GENERAL))])) _
        refine st210 _ ?_
        exact kt
      refine own_go hgo211 ?_
      have hz212 : v13 = 1 := own_leaf1 (p0 := p0) (p1 := p1) (u_Network_Shape_PATH := u_Network_Shape_PATH) (u_Network_Shape_STAR := u_Network_Shape_STAR) (u_Network_Shape_TREE := u_Network_Shape_TREE) (u_Network_Shape_GENERAL := u_Network_Shape_GENERAL) hv1 hv2 hv11 hv13 hs38_3 hs40_4 hs40_9 hne01 hne02 hne03 hne10 hne12 hne13 hne20 hne21 hne23 hne30 hne31 hne32
      exact own_retZ X210 hx Bd.returns Bd.notSynchronized (hb hby at_79) (by decide) (by decide) (Or.inr hz212) ⟨by rw [hz212], N210⟩
    by_cases hs40_14 : v2 = (2 : Int32)
    · obtain ⟨v16, hv16⟩ : ∃ z : Int32, z = (if (((33893 : Int32) >>> (((v1 * (4 : Int32)) + v2) &&& 31)) &&& (1 : Int32)) = (0 : Int32) then (0 : Int32) else (1 : Int32)) := ⟨_, rfl⟩
      obtain ⟨T215, lc215, X215, N215, e215, st215⟩ := own_mrg (n0 := n0) (h := h173) (g := (mkF m 48 #[.val (.int p0), .val (.int p1), .val (.int v1), .val (.int v2), .val (.ref b101), .unset] [(.int (((33893 : Int32) >>> (((v1 * (4 : Int32)) + v2) &&& 31)) &&& (1 : Int32)))])) (g' := (mkF m 56 #[.val (.int p0), .val (.int p1), .val (.int v1), .val (.int v2), .val (.ref b101), .unset] [(.int v16)])) X173 (by
        by_cases hc48_15 : (((33893 : Int32) >>> (((v1 * (4 : Int32)) + v2) &&& 31)) &&& (1 : Int32)) = (0 : Int32)
        · have hgo213 : ∀ t, Steps p.tables e below (T173.setTop (mkF m 56 #[.val (.int p0), .val (.int p1), .val (.int v1), .val (.int v2), .val (.ref b101), .unset] [(.int (0 : Int32))])) t → Steps p.tables e below (T173.setTop (mkF m 48 #[.val (.int p0), .val (.int p1), .val (.int v1), .val (.int v2), .val (.ref b101), .unset] [(.int (((33893 : Int32) >>> (((v1 * (4 : Int32)) + v2) &&& 31)) &&& (1 : Int32)))])) t := by
            intro t kt
            show Steps p.tables e below (T173.setTop (mkF m 48 #[.val (.int p0), .val (.int p1), .val (.int v1), .val (.int v2), .val (.ref b101), .unset] [(.int (((33893 : Int32) >>> (((v1 * (4 : Int32)) + v2) &&& 31)) &&& (1 : Int32)))])) _
            refine XS.ifYes X173.here hx rfl (pc0 := 48) (pc' := 55) rfl (hb hby at_48) rfl ((if0 _ _).trans (teq hc48_15).1) (by decide) (by decide) ?_
            show Steps p.tables e below (T173.setTop (mkF m 55 #[.val (.int p0), .val (.int p1), .val (.int v1), .val (.int v2), .val (.ref b101), .unset] [])) _
            refine XS.iconst X173.here hx rfl (hb hby at_55) ?_
            exact kt
          refine own_arm hgo213 ?_
          exact own_armEnd X173 N188 e173 (by rw [hv16.trans (if_pos hc48_15)])
        · have hgo214 : ∀ t, Steps p.tables e below (T173.setTop (mkF m 56 #[.val (.int p0), .val (.int p1), .val (.int v1), .val (.int v2), .val (.ref b101), .unset] [(.int (1 : Int32))])) t → Steps p.tables e below (T173.setTop (mkF m 48 #[.val (.int p0), .val (.int p1), .val (.int v1), .val (.int v2), .val (.ref b101), .unset] [(.int (((33893 : Int32) >>> (((v1 * (4 : Int32)) + v2) &&& 31)) &&& (1 : Int32)))])) t := by
            intro t kt
            show Steps p.tables e below (T173.setTop (mkF m 48 #[.val (.int p0), .val (.int p1), .val (.int v1), .val (.int v2), .val (.ref b101), .unset] [(.int (((33893 : Int32) >>> (((v1 * (4 : Int32)) + v2) &&& 31)) &&& (1 : Int32)))])) _
            refine XS.ifNo X173.here hx rfl (hb hby at_48) rfl ((if0 _ _).trans (feq hc48_15).1) ?_
            show Steps p.tables e below (T173.setTop (mkF m 51 #[.val (.int p0), .val (.int p1), .val (.int v1), .val (.int v2), .val (.ref b101), .unset] [])) _
            refine XS.iconst X173.here hx rfl (hb hby at_51) ?_
            show Steps p.tables e below (T173.setTop (mkF m 52 #[.val (.int p0), .val (.int p1), .val (.int v1), .val (.int v2), .val (.ref b101), .unset] [(.int (1 : Int32))])) _
            refine XS.goto X173.here hx rfl (pc0 := 52) (pc' := 56) rfl (hb hby at_52) (by decide) (by decide) ?_
            exact kt
          refine own_arm hgo214 ?_
          exact own_armEnd X173 N188 e173 (by rw [hv16.trans (if_neg hc48_15)]))
      have hin61_216 : ¬ v1 < 0 ∧ v1.toNatClampNeg < 4 := by rw [hs38_3]; decide
      have hin65_217 : ¬ v2 < 0 ∧ v2.toNatClampNeg < 4 := by rw [hs40_14]; decide
      obtain ⟨cq218, kq218, q218a, q218b, q218c⟩ := isOf hZ e215 F175
      obtain ⟨_, _, ⟨T218, L218, k218, n218⟩, -, X218, ⟨Lc218, hQ218, l218, y218, z218⟩, st218⟩ := X215.virtualBack hx (y := (⟨"com/example/swapgraph/swapgraph/Network$Shape", "within", "(Lcom/example/swapgraph/swapgraph/Network$Shape;)Z"⟩ : MethodName)) (z := (⟨"com/example/swapgraph/swapgraph/Network$Shape", "within", "(Lcom/example/swapgraph/swapgraph/Network$Shape;)Z"⟩ : MethodName)) hown (mvT hZ (hw _ (List.mem_of_getElem? (i := 13) rfl))) (mvT hZ (hw _ (List.mem_of_getElem? (i := 14) rfl))) (notFace_of_selects (args := #[]) (mvT hZ (hw _ (List.mem_of_getElem? (i := 16) rfl)))) (mvT hZ (hw _ (List.mem_of_getElem? (i := 16) rfl))) (mvT hZ (hw _ (List.mem_of_getElem? (i := 15) rfl))) (by decide) (backOf (W := 0) (rm1 l Z a0 hw [] u_Network_Shape_PATH u_Network_Shape_TREE u_Network_Shape_TREE u_Network_Shape_GENERAL h173 n0 Z186 F178 F180) hZ (hw _ (List.mem_of_getElem? (i := 17) rfl)) (hw _ (List.mem_of_getElem? (i := 3) rfl)) (by decide) (by decide)) q218a q218c (g := (mkF m 66 #[.val (.int p0), .val (.int p1), .val (.int v1), .val (.int v2), .val (.ref b101), .val (.int v16)] [(.ref u_Network_Shape_TREE), (.ref u_Network_Shape_PATH)])) rfl (by rw [hml]; rfl) (Steps.refl _) (argsL := [(.ref u_Network_Shape_TREE)]) (rest := []) (lenOf pd1 rfl) rfl (by show 2 * 0 + _ ≤ _; exact Nat.le_of_eq rfl) (hb hby at_66) (fun _ _ => ⟨rfl, e215, (by decide : 1 + 0 ≤ _), (by decide : 4 + 0 ≤ _)⟩)
      dsimp only [Pt.U, Pt.locs, Pt.cells, Pt.slots] at X218 l218 y218 z218 st218 hQ218
      subst l218 y218 z218
      obtain ⟨rfl, N218q, e218⟩ := hQ218
      have N218 := Fr.app N215 N218q
      obtain ⟨v18, hv18⟩ : ∃ z : Int32, z = (if (own_r1 u_Network_Shape_PATH u_Network_Shape_TREE u_Network_Shape_TREE u_Network_Shape_GENERAL) = v16 then (1 : Int32) else (0 : Int32)) := ⟨_, rfl⟩
      obtain ⟨T221, lc221, X221, N221, e221, st221⟩ := own_mrg (n0 := n0) (h := h173) (g := (mkF m 71 #[.val (.int p0), .val (.int p1), .val (.int v1), .val (.int v2), .val (.ref b101), .val (.int v16)] [(.int v16), (.int (own_r1 u_Network_Shape_PATH u_Network_Shape_TREE u_Network_Shape_TREE u_Network_Shape_GENERAL))])) (g' := (mkF m 79 #[.val (.int p0), .val (.int p1), .val (.int v1), .val (.int v2), .val (.ref b101), .val (.int v16)] [(.int v18)])) X218 (by
        by_cases hc71_17 : (own_r1 u_Network_Shape_PATH u_Network_Shape_TREE u_Network_Shape_TREE u_Network_Shape_GENERAL) = v16
        · have hgo219 : ∀ t, Steps p.tables e below (T218.setTop (mkF m 79 #[.val (.int p0), .val (.int p1), .val (.int v1), .val (.int v2), .val (.ref b101), .val (.int v16)] [(.int (1 : Int32))])) t → Steps p.tables e below (T218.setTop (mkF m 71 #[.val (.int p0), .val (.int p1), .val (.int v1), .val (.int v2), .val (.ref b101), .val (.int v16)] [(.int v16), (.int (own_r1 u_Network_Shape_PATH u_Network_Shape_TREE u_Network_Shape_TREE u_Network_Shape_GENERAL))])) t := by
            intro t kt
            show Steps p.tables e below (T218.setTop (mkF m 71 #[.val (.int p0), .val (.int p1), .val (.int v1), .val (.int v2), .val (.ref b101), .val (.int v16)] [(.int v16), (.int (own_r1 u_Network_Shape_PATH u_Network_Shape_TREE u_Network_Shape_TREE u_Network_Shape_GENERAL))])) _
            refine XS.icmpNo X218.here hx rfl (hb hby at_71) rfl (teq hc71_17).2 ?_
            show Steps p.tables e below (T218.setTop (mkF m 74 #[.val (.int p0), .val (.int p1), .val (.int v1), .val (.int v2), .val (.ref b101), .val (.int v16)] [])) _
            refine XS.iconst X218.here hx rfl (hb hby at_74) ?_
            show Steps p.tables e below (T218.setTop (mkF m 75 #[.val (.int p0), .val (.int p1), .val (.int v1), .val (.int v2), .val (.ref b101), .val (.int v16)] [(.int (1 : Int32))])) _
            refine XS.goto X218.here hx rfl (pc0 := 75) (pc' := 79) rfl (hb hby at_75) (by decide) (by decide) ?_
            exact kt
          refine own_arm hgo219 ?_
          exact own_armEnd X218 N218 e218 (by rw [hv18.trans (if_pos hc71_17)])
        · have hgo220 : ∀ t, Steps p.tables e below (T218.setTop (mkF m 79 #[.val (.int p0), .val (.int p1), .val (.int v1), .val (.int v2), .val (.ref b101), .val (.int v16)] [(.int (0 : Int32))])) t → Steps p.tables e below (T218.setTop (mkF m 71 #[.val (.int p0), .val (.int p1), .val (.int v1), .val (.int v2), .val (.ref b101), .val (.int v16)] [(.int v16), (.int (own_r1 u_Network_Shape_PATH u_Network_Shape_TREE u_Network_Shape_TREE u_Network_Shape_GENERAL))])) t := by
            intro t kt
            show Steps p.tables e below (T218.setTop (mkF m 71 #[.val (.int p0), .val (.int p1), .val (.int v1), .val (.int v2), .val (.ref b101), .val (.int v16)] [(.int v16), (.int (own_r1 u_Network_Shape_PATH u_Network_Shape_TREE u_Network_Shape_TREE u_Network_Shape_GENERAL))])) _
            refine XS.icmpYes X218.here hx rfl (pc0 := 71) (pc' := 78) rfl (hb hby at_71) rfl (feq hc71_17).2 (by decide) (by decide) ?_
            show Steps p.tables e below (T218.setTop (mkF m 78 #[.val (.int p0), .val (.int p1), .val (.int v1), .val (.int v2), .val (.ref b101), .val (.int v16)] [])) _
            refine XS.iconst X218.here hx rfl (hb hby at_78) ?_
            exact kt
          refine own_arm hgo220 ?_
          exact own_armEnd X218 N218 e218 (by rw [hv18.trans (if_neg hc71_17)]))
      have hgo222 : ∀ t, Steps p.tables e below (T221.setTop (mkF m 79 #[.val (.int p0), .val (.int p1), .val (.int v1), .val (.int v2), .val (.ref b101), .val (.int v16)] [(.int v18)])) t → Steps p.tables e below (T173.setTop (mkF m 40 #[.val (.int p0), .val (.int p1), .val (.int v1), .val (.int v2), .val (.ref b101), .unset] [(.int (33893 : Int32))])) t := by
        intro t kt
        show Steps p.tables e below (T173.setTop (mkF m 40 #[.val (.int p0), .val (.int p1), .val (.int v1), .val (.int v2), .val (.ref b101), .unset] [(.int (33893 : Int32))])) _
        refine XS.iloadN X173.here hx rfl (hb hby at_40) rfl ?_
        show Steps p.tables e below (T173.setTop (mkF m 41 #[.val (.int p0), .val (.int p1), .val (.int v1), .val (.int v2), .val (.ref b101), .unset] [(.int v1), (.int (33893 : Int32))])) _
        refine XS.iconst X173.here hx rfl (hb hby at_41) ?_
        show Steps p.tables e below (T173.setTop (mkF m 42 #[.val (.int p0), .val (.int p1), .val (.int v1), .val (.int v2), .val (.ref b101), .unset] [(.int (4 : Int32)), (.int v1), (.int (33893 : Int32))])) _
        refine XS.imul X173.here hx rfl (hb hby at_42) rfl ?_
        show Steps p.tables e below (T173.setTop (mkF m 43 #[.val (.int p0), .val (.int p1), .val (.int v1), .val (.int v2), .val (.ref b101), .unset] [(.int (v1 * (4 : Int32))), (.int (33893 : Int32))])) _
        refine XS.iloadN X173.here hx rfl (hb hby at_43) rfl ?_
        show Steps p.tables e below (T173.setTop (mkF m 44 #[.val (.int p0), .val (.int p1), .val (.int v1), .val (.int v2), .val (.ref b101), .unset] [(.int v2), (.int (v1 * (4 : Int32))), (.int (33893 : Int32))])) _
        refine XS.iadd X173.here hx rfl (hb hby at_44) rfl ?_
        show Steps p.tables e below (T173.setTop (mkF m 45 #[.val (.int p0), .val (.int p1), .val (.int v1), .val (.int v2), .val (.ref b101), .unset] [(.int ((v1 * (4 : Int32)) + v2)), (.int (33893 : Int32))])) _
        refine XS.ishr X173.here hx rfl (hb hby at_45) rfl ?_
        show Steps p.tables e below (T173.setTop (mkF m 46 #[.val (.int p0), .val (.int p1), .val (.int v1), .val (.int v2), .val (.ref b101), .unset] [(.int ((33893 : Int32) >>> (((v1 * (4 : Int32)) + v2) &&& 31)))])) _
        refine XS.iconst X173.here hx rfl (hb hby at_46) ?_
        show Steps p.tables e below (T173.setTop (mkF m 47 #[.val (.int p0), .val (.int p1), .val (.int v1), .val (.int v2), .val (.ref b101), .unset] [(.int (1 : Int32)), (.int ((33893 : Int32) >>> (((v1 * (4 : Int32)) + v2) &&& 31)))])) _
        refine XS.iand X173.here hx rfl (hb hby at_47) rfl ?_
        show Steps p.tables e below (T173.setTop (mkF m 48 #[.val (.int p0), .val (.int p1), .val (.int v1), .val (.int v2), .val (.ref b101), .unset] [(.int (((33893 : Int32) >>> (((v1 * (4 : Int32)) + v2) &&& 31)) &&& (1 : Int32)))])) _
        refine st215 _ ?_
        show Steps p.tables e below (T215.setTop (mkF m 56 #[.val (.int p0), .val (.int p1), .val (.int v1), .val (.int v2), .val (.ref b101), .unset] [(.int v16)])) _
        refine XS.istore X215.here hx rfl (hb hby at_56) rfl (l' := #[.val (.int p0), .val (.int p1), .val (.int v1), .val (.int v2), .val (.ref b101), .val (.int v16)]) rfl ?_
        show Steps p.tables e below (T215.setTop (mkF m 58 #[.val (.int p0), .val (.int p1), .val (.int v1), .val (.int v2), .val (.ref b101), .val (.int v16)] [])) _
        refine XS.aload X215.here hx rfl (hb hby at_58) rfl rfl ?_
        show Steps p.tables e below (T215.setTop (mkF m 60 #[.val (.int p0), .val (.int p1), .val (.int v1), .val (.int v2), .val (.ref b101), .val (.int v16)] [(.ref b101)])) _
        refine XS.iloadN X215.here hx rfl (hb hby at_60) rfl ?_
        show Steps p.tables e below (T215.setTop (mkF m 61 #[.val (.int p0), .val (.int p1), .val (.int v1), .val (.int v2), .val (.ref b101), .val (.int v16)] [(.int v1), (.ref b101)])) _
        refine own_ldR X215 hx hZ e215 B173n (j := v1) (v := (.ref u_Network_Shape_PATH)) hin61_216 (by rw [hs38_3]; rfl) (g := (mkF m 61 #[.val (.int p0), .val (.int p1), .val (.int v1), .val (.int v2), .val (.ref b101), .val (.int v16)] [(.int v1), (.ref b101)])) rfl rfl (hb hby at_61) _ ?_
        show Steps p.tables e below (T215.setTop (mkF m 62 #[.val (.int p0), .val (.int p1), .val (.int v1), .val (.int v2), .val (.ref b101), .val (.int v16)] [(.ref u_Network_Shape_PATH)])) _
        refine XS.aload X215.here hx rfl (hb hby at_62) rfl rfl ?_
        show Steps p.tables e below (T215.setTop (mkF m 64 #[.val (.int p0), .val (.int p1), .val (.int v1), .val (.int v2), .val (.ref b101), .val (.int v16)] [(.ref b101), (.ref u_Network_Shape_PATH)])) _
        refine XS.iloadN X215.here hx rfl (hb hby at_64) rfl ?_
        show Steps p.tables e below (T215.setTop (mkF m 65 #[.val (.int p0), .val (.int p1), .val (.int v1), .val (.int v2), .val (.ref b101), .val (.int v16)] [(.int v2), (.ref b101), (.ref u_Network_Shape_PATH)])) _
        refine own_ldR X215 hx hZ e215 B173n (j := v2) (v := (.ref u_Network_Shape_TREE)) hin65_217 (by rw [hs40_14]; rfl) (g := (mkF m 65 #[.val (.int p0), .val (.int p1), .val (.int v1), .val (.int v2), .val (.ref b101), .val (.int v16)] [(.int v2), (.ref b101), (.ref u_Network_Shape_PATH)])) rfl rfl (hb hby at_65) _ ?_
        show Steps p.tables e below (T215.setTop (mkF m 66 #[.val (.int p0), .val (.int p1), .val (.int v1), .val (.int v2), .val (.ref b101), .val (.int v16)] [(.ref u_Network_Shape_TREE), (.ref u_Network_Shape_PATH)])) _
        refine st218.trans ?_
        show Steps p.tables e below (T218.setTop (mkF m 69 #[.val (.int p0), .val (.int p1), .val (.int v1), .val (.int v2), .val (.ref b101), .val (.int v16)] [(.int (own_r1 u_Network_Shape_PATH u_Network_Shape_TREE u_Network_Shape_TREE u_Network_Shape_GENERAL))])) _
        refine XS.iload X218.here hx rfl (hb hby at_69) rfl ?_
        show Steps p.tables e below (T218.setTop (mkF m 71 #[.val (.int p0), .val (.int p1), .val (.int v1), .val (.int v2), .val (.ref b101), .val (.int v16)] [(.int v16), (.int (own_r1 u_Network_Shape_PATH u_Network_Shape_TREE u_Network_Shape_TREE u_Network_Shape_GENERAL))])) _
        refine st221 _ ?_
        exact kt
      refine own_go hgo222 ?_
      have hz223 : v18 = 1 := own_leaf2 (p0 := p0) (p1 := p1) (u_Network_Shape_PATH := u_Network_Shape_PATH) (u_Network_Shape_STAR := u_Network_Shape_STAR) (u_Network_Shape_TREE := u_Network_Shape_TREE) (u_Network_Shape_GENERAL := u_Network_Shape_GENERAL) hv1 hv2 hv16 hv18 hs38_3 hs40_4 hs40_9 hs40_14 hne01 hne02 hne03 hne10 hne12 hne13 hne20 hne21 hne23 hne30 hne31 hne32
      exact own_retZ X221 hx Bd.returns Bd.notSynchronized (hb hby at_79) (by decide) (by decide) (Or.inr hz223) ⟨by rw [hz223], N221⟩
    · have hs40_19 : v2 = (3 : Int32) := own_is3 hv2 hs40_4 hs40_9 hs40_14
      obtain ⟨v21, hv21⟩ : ∃ z : Int32, z = (if (((33893 : Int32) >>> (((v1 * (4 : Int32)) + v2) &&& 31)) &&& (1 : Int32)) = (0 : Int32) then (0 : Int32) else (1 : Int32)) := ⟨_, rfl⟩
      obtain ⟨T226, lc226, X226, N226, e226, st226⟩ := own_mrg (n0 := n0) (h := h173) (g := (mkF m 48 #[.val (.int p0), .val (.int p1), .val (.int v1), .val (.int v2), .val (.ref b101), .unset] [(.int (((33893 : Int32) >>> (((v1 * (4 : Int32)) + v2) &&& 31)) &&& (1 : Int32)))])) (g' := (mkF m 56 #[.val (.int p0), .val (.int p1), .val (.int v1), .val (.int v2), .val (.ref b101), .unset] [(.int v21)])) X173 (by
        by_cases hc48_20 : (((33893 : Int32) >>> (((v1 * (4 : Int32)) + v2) &&& 31)) &&& (1 : Int32)) = (0 : Int32)
        · have hgo224 : ∀ t, Steps p.tables e below (T173.setTop (mkF m 56 #[.val (.int p0), .val (.int p1), .val (.int v1), .val (.int v2), .val (.ref b101), .unset] [(.int (0 : Int32))])) t → Steps p.tables e below (T173.setTop (mkF m 48 #[.val (.int p0), .val (.int p1), .val (.int v1), .val (.int v2), .val (.ref b101), .unset] [(.int (((33893 : Int32) >>> (((v1 * (4 : Int32)) + v2) &&& 31)) &&& (1 : Int32)))])) t := by
            intro t kt
            show Steps p.tables e below (T173.setTop (mkF m 48 #[.val (.int p0), .val (.int p1), .val (.int v1), .val (.int v2), .val (.ref b101), .unset] [(.int (((33893 : Int32) >>> (((v1 * (4 : Int32)) + v2) &&& 31)) &&& (1 : Int32)))])) _
            refine XS.ifYes X173.here hx rfl (pc0 := 48) (pc' := 55) rfl (hb hby at_48) rfl ((if0 _ _).trans (teq hc48_20).1) (by decide) (by decide) ?_
            show Steps p.tables e below (T173.setTop (mkF m 55 #[.val (.int p0), .val (.int p1), .val (.int v1), .val (.int v2), .val (.ref b101), .unset] [])) _
            refine XS.iconst X173.here hx rfl (hb hby at_55) ?_
            exact kt
          refine own_arm hgo224 ?_
          exact own_armEnd X173 N188 e173 (by rw [hv21.trans (if_pos hc48_20)])
        · have hgo225 : ∀ t, Steps p.tables e below (T173.setTop (mkF m 56 #[.val (.int p0), .val (.int p1), .val (.int v1), .val (.int v2), .val (.ref b101), .unset] [(.int (1 : Int32))])) t → Steps p.tables e below (T173.setTop (mkF m 48 #[.val (.int p0), .val (.int p1), .val (.int v1), .val (.int v2), .val (.ref b101), .unset] [(.int (((33893 : Int32) >>> (((v1 * (4 : Int32)) + v2) &&& 31)) &&& (1 : Int32)))])) t := by
            intro t kt
            show Steps p.tables e below (T173.setTop (mkF m 48 #[.val (.int p0), .val (.int p1), .val (.int v1), .val (.int v2), .val (.ref b101), .unset] [(.int (((33893 : Int32) >>> (((v1 * (4 : Int32)) + v2) &&& 31)) &&& (1 : Int32)))])) _
            refine XS.ifNo X173.here hx rfl (hb hby at_48) rfl ((if0 _ _).trans (feq hc48_20).1) ?_
            show Steps p.tables e below (T173.setTop (mkF m 51 #[.val (.int p0), .val (.int p1), .val (.int v1), .val (.int v2), .val (.ref b101), .unset] [])) _
            refine XS.iconst X173.here hx rfl (hb hby at_51) ?_
            show Steps p.tables e below (T173.setTop (mkF m 52 #[.val (.int p0), .val (.int p1), .val (.int v1), .val (.int v2), .val (.ref b101), .unset] [(.int (1 : Int32))])) _
            refine XS.goto X173.here hx rfl (pc0 := 52) (pc' := 56) rfl (hb hby at_52) (by decide) (by decide) ?_
            exact kt
          refine own_arm hgo225 ?_
          exact own_armEnd X173 N188 e173 (by rw [hv21.trans (if_neg hc48_20)]))
      have hin61_227 : ¬ v1 < 0 ∧ v1.toNatClampNeg < 4 := by rw [hs38_3]; decide
      have hin65_228 : ¬ v2 < 0 ∧ v2.toNatClampNeg < 4 := by rw [hs40_19]; decide
      obtain ⟨cq229, kq229, q229a, q229b, q229c⟩ := isOf hZ e226 F175
      obtain ⟨_, _, ⟨T229, L229, k229, n229⟩, -, X229, ⟨Lc229, hQ229, l229, y229, z229⟩, st229⟩ := X226.virtualBack hx (y := (⟨"com/example/swapgraph/swapgraph/Network$Shape", "within", "(Lcom/example/swapgraph/swapgraph/Network$Shape;)Z"⟩ : MethodName)) (z := (⟨"com/example/swapgraph/swapgraph/Network$Shape", "within", "(Lcom/example/swapgraph/swapgraph/Network$Shape;)Z"⟩ : MethodName)) hown (mvT hZ (hw _ (List.mem_of_getElem? (i := 13) rfl))) (mvT hZ (hw _ (List.mem_of_getElem? (i := 14) rfl))) (notFace_of_selects (args := #[]) (mvT hZ (hw _ (List.mem_of_getElem? (i := 16) rfl)))) (mvT hZ (hw _ (List.mem_of_getElem? (i := 16) rfl))) (mvT hZ (hw _ (List.mem_of_getElem? (i := 15) rfl))) (by decide) (backOf (W := 0) (rm1 l Z a0 hw [] u_Network_Shape_PATH u_Network_Shape_GENERAL u_Network_Shape_TREE u_Network_Shape_GENERAL h173 n0 Z186 F178 F180) hZ (hw _ (List.mem_of_getElem? (i := 17) rfl)) (hw _ (List.mem_of_getElem? (i := 3) rfl)) (by decide) (by decide)) q229a q229c (g := (mkF m 66 #[.val (.int p0), .val (.int p1), .val (.int v1), .val (.int v2), .val (.ref b101), .val (.int v21)] [(.ref u_Network_Shape_GENERAL), (.ref u_Network_Shape_PATH)])) rfl (by rw [hml]; rfl) (Steps.refl _) (argsL := [(.ref u_Network_Shape_GENERAL)]) (rest := []) (lenOf pd1 rfl) rfl (by show 2 * 0 + _ ≤ _; exact Nat.le_of_eq rfl) (hb hby at_66) (fun _ _ => ⟨rfl, e226, (by decide : 1 + 0 ≤ _), (by decide : 4 + 0 ≤ _)⟩)
      dsimp only [Pt.U, Pt.locs, Pt.cells, Pt.slots] at X229 l229 y229 z229 st229 hQ229
      subst l229 y229 z229
      obtain ⟨rfl, N229q, e229⟩ := hQ229
      have N229 := Fr.app N226 N229q
      obtain ⟨v23, hv23⟩ : ∃ z : Int32, z = (if (own_r1 u_Network_Shape_PATH u_Network_Shape_GENERAL u_Network_Shape_TREE u_Network_Shape_GENERAL) = v21 then (1 : Int32) else (0 : Int32)) := ⟨_, rfl⟩
      obtain ⟨T232, lc232, X232, N232, e232, st232⟩ := own_mrg (n0 := n0) (h := h173) (g := (mkF m 71 #[.val (.int p0), .val (.int p1), .val (.int v1), .val (.int v2), .val (.ref b101), .val (.int v21)] [(.int v21), (.int (own_r1 u_Network_Shape_PATH u_Network_Shape_GENERAL u_Network_Shape_TREE u_Network_Shape_GENERAL))])) (g' := (mkF m 79 #[.val (.int p0), .val (.int p1), .val (.int v1), .val (.int v2), .val (.ref b101), .val (.int v21)] [(.int v23)])) X229 (by
        by_cases hc71_22 : (own_r1 u_Network_Shape_PATH u_Network_Shape_GENERAL u_Network_Shape_TREE u_Network_Shape_GENERAL) = v21
        · have hgo230 : ∀ t, Steps p.tables e below (T229.setTop (mkF m 79 #[.val (.int p0), .val (.int p1), .val (.int v1), .val (.int v2), .val (.ref b101), .val (.int v21)] [(.int (1 : Int32))])) t → Steps p.tables e below (T229.setTop (mkF m 71 #[.val (.int p0), .val (.int p1), .val (.int v1), .val (.int v2), .val (.ref b101), .val (.int v21)] [(.int v21), (.int (own_r1 u_Network_Shape_PATH u_Network_Shape_GENERAL u_Network_Shape_TREE u_Network_Shape_GENERAL))])) t := by
            intro t kt
            show Steps p.tables e below (T229.setTop (mkF m 71 #[.val (.int p0), .val (.int p1), .val (.int v1), .val (.int v2), .val (.ref b101), .val (.int v21)] [(.int v21), (.int (own_r1 u_Network_Shape_PATH u_Network_Shape_GENERAL u_Network_Shape_TREE u_Network_Shape_GENERAL))])) _
            refine XS.icmpNo X229.here hx rfl (hb hby at_71) rfl (teq hc71_22).2 ?_
            show Steps p.tables e below (T229.setTop (mkF m 74 #[.val (.int p0), .val (.int p1), .val (.int v1), .val (.int v2), .val (.ref b101), .val (.int v21)] [])) _
            refine XS.iconst X229.here hx rfl (hb hby at_74) ?_
            show Steps p.tables e below (T229.setTop (mkF m 75 #[.val (.int p0), .val (.int p1), .val (.int v1), .val (.int v2), .val (.ref b101), .val (.int v21)] [(.int (1 : Int32))])) _
            refine XS.goto X229.here hx rfl (pc0 := 75) (pc' := 79) rfl (hb hby at_75) (by decide) (by decide) ?_
            exact kt
          refine own_arm hgo230 ?_
          exact own_armEnd X229 N229 e229 (by rw [hv23.trans (if_pos hc71_22)])
        · have hgo231 : ∀ t, Steps p.tables e below (T229.setTop (mkF m 79 #[.val (.int p0), .val (.int p1), .val (.int v1), .val (.int v2), .val (.ref b101), .val (.int v21)] [(.int (0 : Int32))])) t → Steps p.tables e below (T229.setTop (mkF m 71 #[.val (.int p0), .val (.int p1), .val (.int v1), .val (.int v2), .val (.ref b101), .val (.int v21)] [(.int v21), (.int (own_r1 u_Network_Shape_PATH u_Network_Shape_GENERAL u_Network_Shape_TREE u_Network_Shape_GENERAL))])) t := by
            intro t kt
            show Steps p.tables e below (T229.setTop (mkF m 71 #[.val (.int p0), .val (.int p1), .val (.int v1), .val (.int v2), .val (.ref b101), .val (.int v21)] [(.int v21), (.int (own_r1 u_Network_Shape_PATH u_Network_Shape_GENERAL u_Network_Shape_TREE u_Network_Shape_GENERAL))])) _
            refine XS.icmpYes X229.here hx rfl (pc0 := 71) (pc' := 78) rfl (hb hby at_71) rfl (feq hc71_22).2 (by decide) (by decide) ?_
            show Steps p.tables e below (T229.setTop (mkF m 78 #[.val (.int p0), .val (.int p1), .val (.int v1), .val (.int v2), .val (.ref b101), .val (.int v21)] [])) _
            refine XS.iconst X229.here hx rfl (hb hby at_78) ?_
            exact kt
          refine own_arm hgo231 ?_
          exact own_armEnd X229 N229 e229 (by rw [hv23.trans (if_neg hc71_22)]))
      have hgo233 : ∀ t, Steps p.tables e below (T232.setTop (mkF m 79 #[.val (.int p0), .val (.int p1), .val (.int v1), .val (.int v2), .val (.ref b101), .val (.int v21)] [(.int v23)])) t → Steps p.tables e below (T173.setTop (mkF m 40 #[.val (.int p0), .val (.int p1), .val (.int v1), .val (.int v2), .val (.ref b101), .unset] [(.int (33893 : Int32))])) t := by
        intro t kt
        show Steps p.tables e below (T173.setTop (mkF m 40 #[.val (.int p0), .val (.int p1), .val (.int v1), .val (.int v2), .val (.ref b101), .unset] [(.int (33893 : Int32))])) _
        refine XS.iloadN X173.here hx rfl (hb hby at_40) rfl ?_
        show Steps p.tables e below (T173.setTop (mkF m 41 #[.val (.int p0), .val (.int p1), .val (.int v1), .val (.int v2), .val (.ref b101), .unset] [(.int v1), (.int (33893 : Int32))])) _
        refine XS.iconst X173.here hx rfl (hb hby at_41) ?_
        show Steps p.tables e below (T173.setTop (mkF m 42 #[.val (.int p0), .val (.int p1), .val (.int v1), .val (.int v2), .val (.ref b101), .unset] [(.int (4 : Int32)), (.int v1), (.int (33893 : Int32))])) _
        refine XS.imul X173.here hx rfl (hb hby at_42) rfl ?_
        show Steps p.tables e below (T173.setTop (mkF m 43 #[.val (.int p0), .val (.int p1), .val (.int v1), .val (.int v2), .val (.ref b101), .unset] [(.int (v1 * (4 : Int32))), (.int (33893 : Int32))])) _
        refine XS.iloadN X173.here hx rfl (hb hby at_43) rfl ?_
        show Steps p.tables e below (T173.setTop (mkF m 44 #[.val (.int p0), .val (.int p1), .val (.int v1), .val (.int v2), .val (.ref b101), .unset] [(.int v2), (.int (v1 * (4 : Int32))), (.int (33893 : Int32))])) _
        refine XS.iadd X173.here hx rfl (hb hby at_44) rfl ?_
        show Steps p.tables e below (T173.setTop (mkF m 45 #[.val (.int p0), .val (.int p1), .val (.int v1), .val (.int v2), .val (.ref b101), .unset] [(.int ((v1 * (4 : Int32)) + v2)), (.int (33893 : Int32))])) _
        refine XS.ishr X173.here hx rfl (hb hby at_45) rfl ?_
        show Steps p.tables e below (T173.setTop (mkF m 46 #[.val (.int p0), .val (.int p1), .val (.int v1), .val (.int v2), .val (.ref b101), .unset] [(.int ((33893 : Int32) >>> (((v1 * (4 : Int32)) + v2) &&& 31)))])) _
        refine XS.iconst X173.here hx rfl (hb hby at_46) ?_
        show Steps p.tables e below (T173.setTop (mkF m 47 #[.val (.int p0), .val (.int p1), .val (.int v1), .val (.int v2), .val (.ref b101), .unset] [(.int (1 : Int32)), (.int ((33893 : Int32) >>> (((v1 * (4 : Int32)) + v2) &&& 31)))])) _
        refine XS.iand X173.here hx rfl (hb hby at_47) rfl ?_
        show Steps p.tables e below (T173.setTop (mkF m 48 #[.val (.int p0), .val (.int p1), .val (.int v1), .val (.int v2), .val (.ref b101), .unset] [(.int (((33893 : Int32) >>> (((v1 * (4 : Int32)) + v2) &&& 31)) &&& (1 : Int32)))])) _
        refine st226 _ ?_
        show Steps p.tables e below (T226.setTop (mkF m 56 #[.val (.int p0), .val (.int p1), .val (.int v1), .val (.int v2), .val (.ref b101), .unset] [(.int v21)])) _
        refine XS.istore X226.here hx rfl (hb hby at_56) rfl (l' := #[.val (.int p0), .val (.int p1), .val (.int v1), .val (.int v2), .val (.ref b101), .val (.int v21)]) rfl ?_
        show Steps p.tables e below (T226.setTop (mkF m 58 #[.val (.int p0), .val (.int p1), .val (.int v1), .val (.int v2), .val (.ref b101), .val (.int v21)] [])) _
        refine XS.aload X226.here hx rfl (hb hby at_58) rfl rfl ?_
        show Steps p.tables e below (T226.setTop (mkF m 60 #[.val (.int p0), .val (.int p1), .val (.int v1), .val (.int v2), .val (.ref b101), .val (.int v21)] [(.ref b101)])) _
        refine XS.iloadN X226.here hx rfl (hb hby at_60) rfl ?_
        show Steps p.tables e below (T226.setTop (mkF m 61 #[.val (.int p0), .val (.int p1), .val (.int v1), .val (.int v2), .val (.ref b101), .val (.int v21)] [(.int v1), (.ref b101)])) _
        refine own_ldR X226 hx hZ e226 B173n (j := v1) (v := (.ref u_Network_Shape_PATH)) hin61_227 (by rw [hs38_3]; rfl) (g := (mkF m 61 #[.val (.int p0), .val (.int p1), .val (.int v1), .val (.int v2), .val (.ref b101), .val (.int v21)] [(.int v1), (.ref b101)])) rfl rfl (hb hby at_61) _ ?_
        show Steps p.tables e below (T226.setTop (mkF m 62 #[.val (.int p0), .val (.int p1), .val (.int v1), .val (.int v2), .val (.ref b101), .val (.int v21)] [(.ref u_Network_Shape_PATH)])) _
        refine XS.aload X226.here hx rfl (hb hby at_62) rfl rfl ?_
        show Steps p.tables e below (T226.setTop (mkF m 64 #[.val (.int p0), .val (.int p1), .val (.int v1), .val (.int v2), .val (.ref b101), .val (.int v21)] [(.ref b101), (.ref u_Network_Shape_PATH)])) _
        refine XS.iloadN X226.here hx rfl (hb hby at_64) rfl ?_
        show Steps p.tables e below (T226.setTop (mkF m 65 #[.val (.int p0), .val (.int p1), .val (.int v1), .val (.int v2), .val (.ref b101), .val (.int v21)] [(.int v2), (.ref b101), (.ref u_Network_Shape_PATH)])) _
        refine own_ldR X226 hx hZ e226 B173n (j := v2) (v := (.ref u_Network_Shape_GENERAL)) hin65_228 (by rw [hs40_19]; rfl) (g := (mkF m 65 #[.val (.int p0), .val (.int p1), .val (.int v1), .val (.int v2), .val (.ref b101), .val (.int v21)] [(.int v2), (.ref b101), (.ref u_Network_Shape_PATH)])) rfl rfl (hb hby at_65) _ ?_
        show Steps p.tables e below (T226.setTop (mkF m 66 #[.val (.int p0), .val (.int p1), .val (.int v1), .val (.int v2), .val (.ref b101), .val (.int v21)] [(.ref u_Network_Shape_GENERAL), (.ref u_Network_Shape_PATH)])) _
        refine st229.trans ?_
        show Steps p.tables e below (T229.setTop (mkF m 69 #[.val (.int p0), .val (.int p1), .val (.int v1), .val (.int v2), .val (.ref b101), .val (.int v21)] [(.int (own_r1 u_Network_Shape_PATH u_Network_Shape_GENERAL u_Network_Shape_TREE u_Network_Shape_GENERAL))])) _
        refine XS.iload X229.here hx rfl (hb hby at_69) rfl ?_
        show Steps p.tables e below (T229.setTop (mkF m 71 #[.val (.int p0), .val (.int p1), .val (.int v1), .val (.int v2), .val (.ref b101), .val (.int v21)] [(.int v21), (.int (own_r1 u_Network_Shape_PATH u_Network_Shape_GENERAL u_Network_Shape_TREE u_Network_Shape_GENERAL))])) _
        refine st232 _ ?_
        exact kt
      refine own_go hgo233 ?_
      have hz234 : v23 = 1 := own_leaf3 (p0 := p0) (p1 := p1) (u_Network_Shape_PATH := u_Network_Shape_PATH) (u_Network_Shape_STAR := u_Network_Shape_STAR) (u_Network_Shape_TREE := u_Network_Shape_TREE) (u_Network_Shape_GENERAL := u_Network_Shape_GENERAL) hv1 hv2 hv21 hv23 hs38_3 hs40_4 hs40_9 hs40_14 hs40_19 hne01 hne02 hne03 hne10 hne12 hne13 hne20 hne21 hne23 hne30 hne31 hne32
      exact own_retZ X232 hx Bd.returns Bd.notSynchronized (hb hby at_79) (by decide) (by decide) (Or.inr hz234) ⟨by rw [hz234], N232⟩
  by_cases hs38_24 : v1 = (1 : Int32)
  · have hgo235 : ∀ t, Steps p.tables e below (T173.setTop (mkF m 40 #[.val (.int p0), .val (.int p1), .val (.int v1), .val (.int v2), .val (.ref b101), .unset] [(.int (33893 : Int32))])) t → Steps p.tables e below (T173.setTop (mkF m 38 #[.val (.int p0), .val (.int p1), .val (.int v1), .val (.int v2), .val (.ref b101), .unset] [])) t := by
      intro t kt
      show Steps p.tables e below (T173.setTop (mkF m 38 #[.val (.int p0), .val (.int p1), .val (.int v1), .val (.int v2), .val (.ref b101), .unset] [])) _
      refine X173.ldcInt hx hown (mvT hZ (hw _ (List.mem_of_getElem? (i := 12) rfl))) (g := (mkF m 38 #[.val (.int p0), .val (.int p1), .val (.int v1), .val (.int v2), .val (.ref b101), .unset] [])) rfl (hb hby at_38) _ ?_
      exact kt
    refine own_go hgo235 ?_
    by_cases hs40_25 : v2 = (0 : Int32)
    · obtain ⟨v27, hv27⟩ : ∃ z : Int32, z = (if (((33893 : Int32) >>> (((v1 * (4 : Int32)) + v2) &&& 31)) &&& (1 : Int32)) = (0 : Int32) then (0 : Int32) else (1 : Int32)) := ⟨_, rfl⟩
      obtain ⟨T238, lc238, X238, N238, e238, st238⟩ := own_mrg (n0 := n0) (h := h173) (g := (mkF m 48 #[.val (.int p0), .val (.int p1), .val (.int v1), .val (.int v2), .val (.ref b101), .unset] [(.int (((33893 : Int32) >>> (((v1 * (4 : Int32)) + v2) &&& 31)) &&& (1 : Int32)))])) (g' := (mkF m 56 #[.val (.int p0), .val (.int p1), .val (.int v1), .val (.int v2), .val (.ref b101), .unset] [(.int v27)])) X173 (by
        by_cases hc48_26 : (((33893 : Int32) >>> (((v1 * (4 : Int32)) + v2) &&& 31)) &&& (1 : Int32)) = (0 : Int32)
        · have hgo236 : ∀ t, Steps p.tables e below (T173.setTop (mkF m 56 #[.val (.int p0), .val (.int p1), .val (.int v1), .val (.int v2), .val (.ref b101), .unset] [(.int (0 : Int32))])) t → Steps p.tables e below (T173.setTop (mkF m 48 #[.val (.int p0), .val (.int p1), .val (.int v1), .val (.int v2), .val (.ref b101), .unset] [(.int (((33893 : Int32) >>> (((v1 * (4 : Int32)) + v2) &&& 31)) &&& (1 : Int32)))])) t := by
            intro t kt
            show Steps p.tables e below (T173.setTop (mkF m 48 #[.val (.int p0), .val (.int p1), .val (.int v1), .val (.int v2), .val (.ref b101), .unset] [(.int (((33893 : Int32) >>> (((v1 * (4 : Int32)) + v2) &&& 31)) &&& (1 : Int32)))])) _
            refine XS.ifYes X173.here hx rfl (pc0 := 48) (pc' := 55) rfl (hb hby at_48) rfl ((if0 _ _).trans (teq hc48_26).1) (by decide) (by decide) ?_
            show Steps p.tables e below (T173.setTop (mkF m 55 #[.val (.int p0), .val (.int p1), .val (.int v1), .val (.int v2), .val (.ref b101), .unset] [])) _
            refine XS.iconst X173.here hx rfl (hb hby at_55) ?_
            exact kt
          refine own_arm hgo236 ?_
          exact own_armEnd X173 N188 e173 (by rw [hv27.trans (if_pos hc48_26)])
        · have hgo237 : ∀ t, Steps p.tables e below (T173.setTop (mkF m 56 #[.val (.int p0), .val (.int p1), .val (.int v1), .val (.int v2), .val (.ref b101), .unset] [(.int (1 : Int32))])) t → Steps p.tables e below (T173.setTop (mkF m 48 #[.val (.int p0), .val (.int p1), .val (.int v1), .val (.int v2), .val (.ref b101), .unset] [(.int (((33893 : Int32) >>> (((v1 * (4 : Int32)) + v2) &&& 31)) &&& (1 : Int32)))])) t := by
            intro t kt
            show Steps p.tables e below (T173.setTop (mkF m 48 #[.val (.int p0), .val (.int p1), .val (.int v1), .val (.int v2), .val (.ref b101), .unset] [(.int (((33893 : Int32) >>> (((v1 * (4 : Int32)) + v2) &&& 31)) &&& (1 : Int32)))])) _
            refine XS.ifNo X173.here hx rfl (hb hby at_48) rfl ((if0 _ _).trans (feq hc48_26).1) ?_
            show Steps p.tables e below (T173.setTop (mkF m 51 #[.val (.int p0), .val (.int p1), .val (.int v1), .val (.int v2), .val (.ref b101), .unset] [])) _
            refine XS.iconst X173.here hx rfl (hb hby at_51) ?_
            show Steps p.tables e below (T173.setTop (mkF m 52 #[.val (.int p0), .val (.int p1), .val (.int v1), .val (.int v2), .val (.ref b101), .unset] [(.int (1 : Int32))])) _
            refine XS.goto X173.here hx rfl (pc0 := 52) (pc' := 56) rfl (hb hby at_52) (by decide) (by decide) ?_
            exact kt
          refine own_arm hgo237 ?_
          exact own_armEnd X173 N188 e173 (by rw [hv27.trans (if_neg hc48_26)]))
      have hin61_239 : ¬ v1 < 0 ∧ v1.toNatClampNeg < 4 := by rw [hs38_24]; decide
      have hin65_240 : ¬ v2 < 0 ∧ v2.toNatClampNeg < 4 := by rw [hs40_25]; decide
      obtain ⟨cq241, kq241, q241a, q241b, q241c⟩ := isOf hZ e238 F177
      obtain ⟨_, _, ⟨T241, L241, k241, n241⟩, -, X241, ⟨Lc241, hQ241, l241, y241, z241⟩, st241⟩ := X238.virtualBack hx (y := (⟨"com/example/swapgraph/swapgraph/Network$Shape", "within", "(Lcom/example/swapgraph/swapgraph/Network$Shape;)Z"⟩ : MethodName)) (z := (⟨"com/example/swapgraph/swapgraph/Network$Shape", "within", "(Lcom/example/swapgraph/swapgraph/Network$Shape;)Z"⟩ : MethodName)) hown (mvT hZ (hw _ (List.mem_of_getElem? (i := 13) rfl))) (mvT hZ (hw _ (List.mem_of_getElem? (i := 14) rfl))) (notFace_of_selects (args := #[]) (mvT hZ (hw _ (List.mem_of_getElem? (i := 16) rfl)))) (mvT hZ (hw _ (List.mem_of_getElem? (i := 16) rfl))) (mvT hZ (hw _ (List.mem_of_getElem? (i := 15) rfl))) (by decide) (backOf (W := 0) (rm1 l Z a0 hw [] u_Network_Shape_STAR u_Network_Shape_PATH u_Network_Shape_TREE u_Network_Shape_GENERAL h173 n0 Z186 F178 F180) hZ (hw _ (List.mem_of_getElem? (i := 17) rfl)) (hw _ (List.mem_of_getElem? (i := 3) rfl)) (by decide) (by decide)) q241a q241c (g := (mkF m 66 #[.val (.int p0), .val (.int p1), .val (.int v1), .val (.int v2), .val (.ref b101), .val (.int v27)] [(.ref u_Network_Shape_PATH), (.ref u_Network_Shape_STAR)])) rfl (by rw [hml]; rfl) (Steps.refl _) (argsL := [(.ref u_Network_Shape_PATH)]) (rest := []) (lenOf pd1 rfl) rfl (by show 2 * 0 + _ ≤ _; exact Nat.le_of_eq rfl) (hb hby at_66) (fun _ _ => ⟨rfl, e238, (by decide : 1 + 0 ≤ _), (by decide : 4 + 0 ≤ _)⟩)
      dsimp only [Pt.U, Pt.locs, Pt.cells, Pt.slots] at X241 l241 y241 z241 st241 hQ241
      subst l241 y241 z241
      obtain ⟨rfl, N241q, e241⟩ := hQ241
      have N241 := Fr.app N238 N241q
      obtain ⟨v29, hv29⟩ : ∃ z : Int32, z = (if (own_r1 u_Network_Shape_STAR u_Network_Shape_PATH u_Network_Shape_TREE u_Network_Shape_GENERAL) = v27 then (1 : Int32) else (0 : Int32)) := ⟨_, rfl⟩
      obtain ⟨T244, lc244, X244, N244, e244, st244⟩ := own_mrg (n0 := n0) (h := h173) (g := (mkF m 71 #[.val (.int p0), .val (.int p1), .val (.int v1), .val (.int v2), .val (.ref b101), .val (.int v27)] [(.int v27), (.int (own_r1 u_Network_Shape_STAR u_Network_Shape_PATH u_Network_Shape_TREE u_Network_Shape_GENERAL))])) (g' := (mkF m 79 #[.val (.int p0), .val (.int p1), .val (.int v1), .val (.int v2), .val (.ref b101), .val (.int v27)] [(.int v29)])) X241 (by
        by_cases hc71_28 : (own_r1 u_Network_Shape_STAR u_Network_Shape_PATH u_Network_Shape_TREE u_Network_Shape_GENERAL) = v27
        · have hgo242 : ∀ t, Steps p.tables e below (T241.setTop (mkF m 79 #[.val (.int p0), .val (.int p1), .val (.int v1), .val (.int v2), .val (.ref b101), .val (.int v27)] [(.int (1 : Int32))])) t → Steps p.tables e below (T241.setTop (mkF m 71 #[.val (.int p0), .val (.int p1), .val (.int v1), .val (.int v2), .val (.ref b101), .val (.int v27)] [(.int v27), (.int (own_r1 u_Network_Shape_STAR u_Network_Shape_PATH u_Network_Shape_TREE u_Network_Shape_GENERAL))])) t := by
            intro t kt
            show Steps p.tables e below (T241.setTop (mkF m 71 #[.val (.int p0), .val (.int p1), .val (.int v1), .val (.int v2), .val (.ref b101), .val (.int v27)] [(.int v27), (.int (own_r1 u_Network_Shape_STAR u_Network_Shape_PATH u_Network_Shape_TREE u_Network_Shape_GENERAL))])) _
            refine XS.icmpNo X241.here hx rfl (hb hby at_71) rfl (teq hc71_28).2 ?_
            show Steps p.tables e below (T241.setTop (mkF m 74 #[.val (.int p0), .val (.int p1), .val (.int v1), .val (.int v2), .val (.ref b101), .val (.int v27)] [])) _
            refine XS.iconst X241.here hx rfl (hb hby at_74) ?_
            show Steps p.tables e below (T241.setTop (mkF m 75 #[.val (.int p0), .val (.int p1), .val (.int v1), .val (.int v2), .val (.ref b101), .val (.int v27)] [(.int (1 : Int32))])) _
            refine XS.goto X241.here hx rfl (pc0 := 75) (pc' := 79) rfl (hb hby at_75) (by decide) (by decide) ?_
            exact kt
          refine own_arm hgo242 ?_
          exact own_armEnd X241 N241 e241 (by rw [hv29.trans (if_pos hc71_28)])
        · have hgo243 : ∀ t, Steps p.tables e below (T241.setTop (mkF m 79 #[.val (.int p0), .val (.int p1), .val (.int v1), .val (.int v2), .val (.ref b101), .val (.int v27)] [(.int (0 : Int32))])) t → Steps p.tables e below (T241.setTop (mkF m 71 #[.val (.int p0), .val (.int p1), .val (.int v1), .val (.int v2), .val (.ref b101), .val (.int v27)] [(.int v27), (.int (own_r1 u_Network_Shape_STAR u_Network_Shape_PATH u_Network_Shape_TREE u_Network_Shape_GENERAL))])) t := by
            intro t kt
            show Steps p.tables e below (T241.setTop (mkF m 71 #[.val (.int p0), .val (.int p1), .val (.int v1), .val (.int v2), .val (.ref b101), .val (.int v27)] [(.int v27), (.int (own_r1 u_Network_Shape_STAR u_Network_Shape_PATH u_Network_Shape_TREE u_Network_Shape_GENERAL))])) _
            refine XS.icmpYes X241.here hx rfl (pc0 := 71) (pc' := 78) rfl (hb hby at_71) rfl (feq hc71_28).2 (by decide) (by decide) ?_
            show Steps p.tables e below (T241.setTop (mkF m 78 #[.val (.int p0), .val (.int p1), .val (.int v1), .val (.int v2), .val (.ref b101), .val (.int v27)] [])) _
            refine XS.iconst X241.here hx rfl (hb hby at_78) ?_
            exact kt
          refine own_arm hgo243 ?_
          exact own_armEnd X241 N241 e241 (by rw [hv29.trans (if_neg hc71_28)]))
      have hgo245 : ∀ t, Steps p.tables e below (T244.setTop (mkF m 79 #[.val (.int p0), .val (.int p1), .val (.int v1), .val (.int v2), .val (.ref b101), .val (.int v27)] [(.int v29)])) t → Steps p.tables e below (T173.setTop (mkF m 40 #[.val (.int p0), .val (.int p1), .val (.int v1), .val (.int v2), .val (.ref b101), .unset] [(.int (33893 : Int32))])) t := by
        intro t kt
        show Steps p.tables e below (T173.setTop (mkF m 40 #[.val (.int p0), .val (.int p1), .val (.int v1), .val (.int v2), .val (.ref b101), .unset] [(.int (33893 : Int32))])) _
        refine XS.iloadN X173.here hx rfl (hb hby at_40) rfl ?_
        show Steps p.tables e below (T173.setTop (mkF m 41 #[.val (.int p0), .val (.int p1), .val (.int v1), .val (.int v2), .val (.ref b101), .unset] [(.int v1), (.int (33893 : Int32))])) _
        refine XS.iconst X173.here hx rfl (hb hby at_41) ?_
        show Steps p.tables e below (T173.setTop (mkF m 42 #[.val (.int p0), .val (.int p1), .val (.int v1), .val (.int v2), .val (.ref b101), .unset] [(.int (4 : Int32)), (.int v1), (.int (33893 : Int32))])) _
        refine XS.imul X173.here hx rfl (hb hby at_42) rfl ?_
        show Steps p.tables e below (T173.setTop (mkF m 43 #[.val (.int p0), .val (.int p1), .val (.int v1), .val (.int v2), .val (.ref b101), .unset] [(.int (v1 * (4 : Int32))), (.int (33893 : Int32))])) _
        refine XS.iloadN X173.here hx rfl (hb hby at_43) rfl ?_
        show Steps p.tables e below (T173.setTop (mkF m 44 #[.val (.int p0), .val (.int p1), .val (.int v1), .val (.int v2), .val (.ref b101), .unset] [(.int v2), (.int (v1 * (4 : Int32))), (.int (33893 : Int32))])) _
        refine XS.iadd X173.here hx rfl (hb hby at_44) rfl ?_
        show Steps p.tables e below (T173.setTop (mkF m 45 #[.val (.int p0), .val (.int p1), .val (.int v1), .val (.int v2), .val (.ref b101), .unset] [(.int ((v1 * (4 : Int32)) + v2)), (.int (33893 : Int32))])) _
        refine XS.ishr X173.here hx rfl (hb hby at_45) rfl ?_
        show Steps p.tables e below (T173.setTop (mkF m 46 #[.val (.int p0), .val (.int p1), .val (.int v1), .val (.int v2), .val (.ref b101), .unset] [(.int ((33893 : Int32) >>> (((v1 * (4 : Int32)) + v2) &&& 31)))])) _
        refine XS.iconst X173.here hx rfl (hb hby at_46) ?_
        show Steps p.tables e below (T173.setTop (mkF m 47 #[.val (.int p0), .val (.int p1), .val (.int v1), .val (.int v2), .val (.ref b101), .unset] [(.int (1 : Int32)), (.int ((33893 : Int32) >>> (((v1 * (4 : Int32)) + v2) &&& 31)))])) _
        refine XS.iand X173.here hx rfl (hb hby at_47) rfl ?_
        show Steps p.tables e below (T173.setTop (mkF m 48 #[.val (.int p0), .val (.int p1), .val (.int v1), .val (.int v2), .val (.ref b101), .unset] [(.int (((33893 : Int32) >>> (((v1 * (4 : Int32)) + v2) &&& 31)) &&& (1 : Int32)))])) _
        refine st238 _ ?_
        show Steps p.tables e below (T238.setTop (mkF m 56 #[.val (.int p0), .val (.int p1), .val (.int v1), .val (.int v2), .val (.ref b101), .unset] [(.int v27)])) _
        refine XS.istore X238.here hx rfl (hb hby at_56) rfl (l' := #[.val (.int p0), .val (.int p1), .val (.int v1), .val (.int v2), .val (.ref b101), .val (.int v27)]) rfl ?_
        show Steps p.tables e below (T238.setTop (mkF m 58 #[.val (.int p0), .val (.int p1), .val (.int v1), .val (.int v2), .val (.ref b101), .val (.int v27)] [])) _
        refine XS.aload X238.here hx rfl (hb hby at_58) rfl rfl ?_
        show Steps p.tables e below (T238.setTop (mkF m 60 #[.val (.int p0), .val (.int p1), .val (.int v1), .val (.int v2), .val (.ref b101), .val (.int v27)] [(.ref b101)])) _
        refine XS.iloadN X238.here hx rfl (hb hby at_60) rfl ?_
        show Steps p.tables e below (T238.setTop (mkF m 61 #[.val (.int p0), .val (.int p1), .val (.int v1), .val (.int v2), .val (.ref b101), .val (.int v27)] [(.int v1), (.ref b101)])) _
        refine own_ldR X238 hx hZ e238 B173n (j := v1) (v := (.ref u_Network_Shape_STAR)) hin61_239 (by rw [hs38_24]; rfl) (g := (mkF m 61 #[.val (.int p0), .val (.int p1), .val (.int v1), .val (.int v2), .val (.ref b101), .val (.int v27)] [(.int v1), (.ref b101)])) rfl rfl (hb hby at_61) _ ?_
        show Steps p.tables e below (T238.setTop (mkF m 62 #[.val (.int p0), .val (.int p1), .val (.int v1), .val (.int v2), .val (.ref b101), .val (.int v27)] [(.ref u_Network_Shape_STAR)])) _
        refine XS.aload X238.here hx rfl (hb hby at_62) rfl rfl ?_
        show Steps p.tables e below (T238.setTop (mkF m 64 #[.val (.int p0), .val (.int p1), .val (.int v1), .val (.int v2), .val (.ref b101), .val (.int v27)] [(.ref b101), (.ref u_Network_Shape_STAR)])) _
        refine XS.iloadN X238.here hx rfl (hb hby at_64) rfl ?_
        show Steps p.tables e below (T238.setTop (mkF m 65 #[.val (.int p0), .val (.int p1), .val (.int v1), .val (.int v2), .val (.ref b101), .val (.int v27)] [(.int v2), (.ref b101), (.ref u_Network_Shape_STAR)])) _
        refine own_ldR X238 hx hZ e238 B173n (j := v2) (v := (.ref u_Network_Shape_PATH)) hin65_240 (by rw [hs40_25]; rfl) (g := (mkF m 65 #[.val (.int p0), .val (.int p1), .val (.int v1), .val (.int v2), .val (.ref b101), .val (.int v27)] [(.int v2), (.ref b101), (.ref u_Network_Shape_STAR)])) rfl rfl (hb hby at_65) _ ?_
        show Steps p.tables e below (T238.setTop (mkF m 66 #[.val (.int p0), .val (.int p1), .val (.int v1), .val (.int v2), .val (.ref b101), .val (.int v27)] [(.ref u_Network_Shape_PATH), (.ref u_Network_Shape_STAR)])) _
        refine st241.trans ?_
        show Steps p.tables e below (T241.setTop (mkF m 69 #[.val (.int p0), .val (.int p1), .val (.int v1), .val (.int v2), .val (.ref b101), .val (.int v27)] [(.int (own_r1 u_Network_Shape_STAR u_Network_Shape_PATH u_Network_Shape_TREE u_Network_Shape_GENERAL))])) _
        refine XS.iload X241.here hx rfl (hb hby at_69) rfl ?_
        show Steps p.tables e below (T241.setTop (mkF m 71 #[.val (.int p0), .val (.int p1), .val (.int v1), .val (.int v2), .val (.ref b101), .val (.int v27)] [(.int v27), (.int (own_r1 u_Network_Shape_STAR u_Network_Shape_PATH u_Network_Shape_TREE u_Network_Shape_GENERAL))])) _
        refine st244 _ ?_
        exact kt
      refine own_go hgo245 ?_
      have hz246 : v29 = 1 := own_leaf4 (p0 := p0) (p1 := p1) (u_Network_Shape_PATH := u_Network_Shape_PATH) (u_Network_Shape_STAR := u_Network_Shape_STAR) (u_Network_Shape_TREE := u_Network_Shape_TREE) (u_Network_Shape_GENERAL := u_Network_Shape_GENERAL) hv1 hv2 hv27 hv29 hs38_3 hs38_24 hs40_25 hne01 hne02 hne03 hne10 hne12 hne13 hne20 hne21 hne23 hne30 hne31 hne32
      exact own_retZ X244 hx Bd.returns Bd.notSynchronized (hb hby at_79) (by decide) (by decide) (Or.inr hz246) ⟨by rw [hz246], N244⟩
    by_cases hs40_30 : v2 = (1 : Int32)
    · obtain ⟨v32, hv32⟩ : ∃ z : Int32, z = (if (((33893 : Int32) >>> (((v1 * (4 : Int32)) + v2) &&& 31)) &&& (1 : Int32)) = (0 : Int32) then (0 : Int32) else (1 : Int32)) := ⟨_, rfl⟩
      obtain ⟨T249, lc249, X249, N249, e249, st249⟩ := own_mrg (n0 := n0) (h := h173) (g := (mkF m 48 #[.val (.int p0), .val (.int p1), .val (.int v1), .val (.int v2), .val (.ref b101), .unset] [(.int (((33893 : Int32) >>> (((v1 * (4 : Int32)) + v2) &&& 31)) &&& (1 : Int32)))])) (g' := (mkF m 56 #[.val (.int p0), .val (.int p1), .val (.int v1), .val (.int v2), .val (.ref b101), .unset] [(.int v32)])) X173 (by
        by_cases hc48_31 : (((33893 : Int32) >>> (((v1 * (4 : Int32)) + v2) &&& 31)) &&& (1 : Int32)) = (0 : Int32)
        · have hgo247 : ∀ t, Steps p.tables e below (T173.setTop (mkF m 56 #[.val (.int p0), .val (.int p1), .val (.int v1), .val (.int v2), .val (.ref b101), .unset] [(.int (0 : Int32))])) t → Steps p.tables e below (T173.setTop (mkF m 48 #[.val (.int p0), .val (.int p1), .val (.int v1), .val (.int v2), .val (.ref b101), .unset] [(.int (((33893 : Int32) >>> (((v1 * (4 : Int32)) + v2) &&& 31)) &&& (1 : Int32)))])) t := by
            intro t kt
            show Steps p.tables e below (T173.setTop (mkF m 48 #[.val (.int p0), .val (.int p1), .val (.int v1), .val (.int v2), .val (.ref b101), .unset] [(.int (((33893 : Int32) >>> (((v1 * (4 : Int32)) + v2) &&& 31)) &&& (1 : Int32)))])) _
            refine XS.ifYes X173.here hx rfl (pc0 := 48) (pc' := 55) rfl (hb hby at_48) rfl ((if0 _ _).trans (teq hc48_31).1) (by decide) (by decide) ?_
            show Steps p.tables e below (T173.setTop (mkF m 55 #[.val (.int p0), .val (.int p1), .val (.int v1), .val (.int v2), .val (.ref b101), .unset] [])) _
            refine XS.iconst X173.here hx rfl (hb hby at_55) ?_
            exact kt
          refine own_arm hgo247 ?_
          exact own_armEnd X173 N188 e173 (by rw [hv32.trans (if_pos hc48_31)])
        · have hgo248 : ∀ t, Steps p.tables e below (T173.setTop (mkF m 56 #[.val (.int p0), .val (.int p1), .val (.int v1), .val (.int v2), .val (.ref b101), .unset] [(.int (1 : Int32))])) t → Steps p.tables e below (T173.setTop (mkF m 48 #[.val (.int p0), .val (.int p1), .val (.int v1), .val (.int v2), .val (.ref b101), .unset] [(.int (((33893 : Int32) >>> (((v1 * (4 : Int32)) + v2) &&& 31)) &&& (1 : Int32)))])) t := by
            intro t kt
            show Steps p.tables e below (T173.setTop (mkF m 48 #[.val (.int p0), .val (.int p1), .val (.int v1), .val (.int v2), .val (.ref b101), .unset] [(.int (((33893 : Int32) >>> (((v1 * (4 : Int32)) + v2) &&& 31)) &&& (1 : Int32)))])) _
            refine XS.ifNo X173.here hx rfl (hb hby at_48) rfl ((if0 _ _).trans (feq hc48_31).1) ?_
            show Steps p.tables e below (T173.setTop (mkF m 51 #[.val (.int p0), .val (.int p1), .val (.int v1), .val (.int v2), .val (.ref b101), .unset] [])) _
            refine XS.iconst X173.here hx rfl (hb hby at_51) ?_
            show Steps p.tables e below (T173.setTop (mkF m 52 #[.val (.int p0), .val (.int p1), .val (.int v1), .val (.int v2), .val (.ref b101), .unset] [(.int (1 : Int32))])) _
            refine XS.goto X173.here hx rfl (pc0 := 52) (pc' := 56) rfl (hb hby at_52) (by decide) (by decide) ?_
            exact kt
          refine own_arm hgo248 ?_
          exact own_armEnd X173 N188 e173 (by rw [hv32.trans (if_neg hc48_31)]))
      have hin61_250 : ¬ v1 < 0 ∧ v1.toNatClampNeg < 4 := by rw [hs38_24]; decide
      have hin65_251 : ¬ v2 < 0 ∧ v2.toNatClampNeg < 4 := by rw [hs40_30]; decide
      obtain ⟨cq252, kq252, q252a, q252b, q252c⟩ := isOf hZ e249 F177
      obtain ⟨_, _, ⟨T252, L252, k252, n252⟩, -, X252, ⟨Lc252, hQ252, l252, y252, z252⟩, st252⟩ := X249.virtualBack hx (y := (⟨"com/example/swapgraph/swapgraph/Network$Shape", "within", "(Lcom/example/swapgraph/swapgraph/Network$Shape;)Z"⟩ : MethodName)) (z := (⟨"com/example/swapgraph/swapgraph/Network$Shape", "within", "(Lcom/example/swapgraph/swapgraph/Network$Shape;)Z"⟩ : MethodName)) hown (mvT hZ (hw _ (List.mem_of_getElem? (i := 13) rfl))) (mvT hZ (hw _ (List.mem_of_getElem? (i := 14) rfl))) (notFace_of_selects (args := #[]) (mvT hZ (hw _ (List.mem_of_getElem? (i := 16) rfl)))) (mvT hZ (hw _ (List.mem_of_getElem? (i := 16) rfl))) (mvT hZ (hw _ (List.mem_of_getElem? (i := 15) rfl))) (by decide) (backOf (W := 0) (rm1 l Z a0 hw [] u_Network_Shape_STAR u_Network_Shape_STAR u_Network_Shape_TREE u_Network_Shape_GENERAL h173 n0 Z186 F178 F180) hZ (hw _ (List.mem_of_getElem? (i := 17) rfl)) (hw _ (List.mem_of_getElem? (i := 3) rfl)) (by decide) (by decide)) q252a q252c (g := (mkF m 66 #[.val (.int p0), .val (.int p1), .val (.int v1), .val (.int v2), .val (.ref b101), .val (.int v32)] [(.ref u_Network_Shape_STAR), (.ref u_Network_Shape_STAR)])) rfl (by rw [hml]; rfl) (Steps.refl _) (argsL := [(.ref u_Network_Shape_STAR)]) (rest := []) (lenOf pd1 rfl) rfl (by show 2 * 0 + _ ≤ _; exact Nat.le_of_eq rfl) (hb hby at_66) (fun _ _ => ⟨rfl, e249, (by decide : 1 + 0 ≤ _), (by decide : 4 + 0 ≤ _)⟩)
      dsimp only [Pt.U, Pt.locs, Pt.cells, Pt.slots] at X252 l252 y252 z252 st252 hQ252
      subst l252 y252 z252
      obtain ⟨rfl, N252q, e252⟩ := hQ252
      have N252 := Fr.app N249 N252q
      obtain ⟨v34, hv34⟩ : ∃ z : Int32, z = (if (own_r1 u_Network_Shape_STAR u_Network_Shape_STAR u_Network_Shape_TREE u_Network_Shape_GENERAL) = v32 then (1 : Int32) else (0 : Int32)) := ⟨_, rfl⟩
      obtain ⟨T255, lc255, X255, N255, e255, st255⟩ := own_mrg (n0 := n0) (h := h173) (g := (mkF m 71 #[.val (.int p0), .val (.int p1), .val (.int v1), .val (.int v2), .val (.ref b101), .val (.int v32)] [(.int v32), (.int (own_r1 u_Network_Shape_STAR u_Network_Shape_STAR u_Network_Shape_TREE u_Network_Shape_GENERAL))])) (g' := (mkF m 79 #[.val (.int p0), .val (.int p1), .val (.int v1), .val (.int v2), .val (.ref b101), .val (.int v32)] [(.int v34)])) X252 (by
        by_cases hc71_33 : (own_r1 u_Network_Shape_STAR u_Network_Shape_STAR u_Network_Shape_TREE u_Network_Shape_GENERAL) = v32
        · have hgo253 : ∀ t, Steps p.tables e below (T252.setTop (mkF m 79 #[.val (.int p0), .val (.int p1), .val (.int v1), .val (.int v2), .val (.ref b101), .val (.int v32)] [(.int (1 : Int32))])) t → Steps p.tables e below (T252.setTop (mkF m 71 #[.val (.int p0), .val (.int p1), .val (.int v1), .val (.int v2), .val (.ref b101), .val (.int v32)] [(.int v32), (.int (own_r1 u_Network_Shape_STAR u_Network_Shape_STAR u_Network_Shape_TREE u_Network_Shape_GENERAL))])) t := by
            intro t kt
            show Steps p.tables e below (T252.setTop (mkF m 71 #[.val (.int p0), .val (.int p1), .val (.int v1), .val (.int v2), .val (.ref b101), .val (.int v32)] [(.int v32), (.int (own_r1 u_Network_Shape_STAR u_Network_Shape_STAR u_Network_Shape_TREE u_Network_Shape_GENERAL))])) _
            refine XS.icmpNo X252.here hx rfl (hb hby at_71) rfl (teq hc71_33).2 ?_
            show Steps p.tables e below (T252.setTop (mkF m 74 #[.val (.int p0), .val (.int p1), .val (.int v1), .val (.int v2), .val (.ref b101), .val (.int v32)] [])) _
            refine XS.iconst X252.here hx rfl (hb hby at_74) ?_
            show Steps p.tables e below (T252.setTop (mkF m 75 #[.val (.int p0), .val (.int p1), .val (.int v1), .val (.int v2), .val (.ref b101), .val (.int v32)] [(.int (1 : Int32))])) _
            refine XS.goto X252.here hx rfl (pc0 := 75) (pc' := 79) rfl (hb hby at_75) (by decide) (by decide) ?_
            exact kt
          refine own_arm hgo253 ?_
          exact own_armEnd X252 N252 e252 (by rw [hv34.trans (if_pos hc71_33)])
        · have hgo254 : ∀ t, Steps p.tables e below (T252.setTop (mkF m 79 #[.val (.int p0), .val (.int p1), .val (.int v1), .val (.int v2), .val (.ref b101), .val (.int v32)] [(.int (0 : Int32))])) t → Steps p.tables e below (T252.setTop (mkF m 71 #[.val (.int p0), .val (.int p1), .val (.int v1), .val (.int v2), .val (.ref b101), .val (.int v32)] [(.int v32), (.int (own_r1 u_Network_Shape_STAR u_Network_Shape_STAR u_Network_Shape_TREE u_Network_Shape_GENERAL))])) t := by
            intro t kt
            show Steps p.tables e below (T252.setTop (mkF m 71 #[.val (.int p0), .val (.int p1), .val (.int v1), .val (.int v2), .val (.ref b101), .val (.int v32)] [(.int v32), (.int (own_r1 u_Network_Shape_STAR u_Network_Shape_STAR u_Network_Shape_TREE u_Network_Shape_GENERAL))])) _
            refine XS.icmpYes X252.here hx rfl (pc0 := 71) (pc' := 78) rfl (hb hby at_71) rfl (feq hc71_33).2 (by decide) (by decide) ?_
            show Steps p.tables e below (T252.setTop (mkF m 78 #[.val (.int p0), .val (.int p1), .val (.int v1), .val (.int v2), .val (.ref b101), .val (.int v32)] [])) _
            refine XS.iconst X252.here hx rfl (hb hby at_78) ?_
            exact kt
          refine own_arm hgo254 ?_
          exact own_armEnd X252 N252 e252 (by rw [hv34.trans (if_neg hc71_33)]))
      have hgo256 : ∀ t, Steps p.tables e below (T255.setTop (mkF m 79 #[.val (.int p0), .val (.int p1), .val (.int v1), .val (.int v2), .val (.ref b101), .val (.int v32)] [(.int v34)])) t → Steps p.tables e below (T173.setTop (mkF m 40 #[.val (.int p0), .val (.int p1), .val (.int v1), .val (.int v2), .val (.ref b101), .unset] [(.int (33893 : Int32))])) t := by
        intro t kt
        show Steps p.tables e below (T173.setTop (mkF m 40 #[.val (.int p0), .val (.int p1), .val (.int v1), .val (.int v2), .val (.ref b101), .unset] [(.int (33893 : Int32))])) _
        refine XS.iloadN X173.here hx rfl (hb hby at_40) rfl ?_
        show Steps p.tables e below (T173.setTop (mkF m 41 #[.val (.int p0), .val (.int p1), .val (.int v1), .val (.int v2), .val (.ref b101), .unset] [(.int v1), (.int (33893 : Int32))])) _
        refine XS.iconst X173.here hx rfl (hb hby at_41) ?_
        show Steps p.tables e below (T173.setTop (mkF m 42 #[.val (.int p0), .val (.int p1), .val (.int v1), .val (.int v2), .val (.ref b101), .unset] [(.int (4 : Int32)), (.int v1), (.int (33893 : Int32))])) _
        refine XS.imul X173.here hx rfl (hb hby at_42) rfl ?_
        show Steps p.tables e below (T173.setTop (mkF m 43 #[.val (.int p0), .val (.int p1), .val (.int v1), .val (.int v2), .val (.ref b101), .unset] [(.int (v1 * (4 : Int32))), (.int (33893 : Int32))])) _
        refine XS.iloadN X173.here hx rfl (hb hby at_43) rfl ?_
        show Steps p.tables e below (T173.setTop (mkF m 44 #[.val (.int p0), .val (.int p1), .val (.int v1), .val (.int v2), .val (.ref b101), .unset] [(.int v2), (.int (v1 * (4 : Int32))), (.int (33893 : Int32))])) _
        refine XS.iadd X173.here hx rfl (hb hby at_44) rfl ?_
        show Steps p.tables e below (T173.setTop (mkF m 45 #[.val (.int p0), .val (.int p1), .val (.int v1), .val (.int v2), .val (.ref b101), .unset] [(.int ((v1 * (4 : Int32)) + v2)), (.int (33893 : Int32))])) _
        refine XS.ishr X173.here hx rfl (hb hby at_45) rfl ?_
        show Steps p.tables e below (T173.setTop (mkF m 46 #[.val (.int p0), .val (.int p1), .val (.int v1), .val (.int v2), .val (.ref b101), .unset] [(.int ((33893 : Int32) >>> (((v1 * (4 : Int32)) + v2) &&& 31)))])) _
        refine XS.iconst X173.here hx rfl (hb hby at_46) ?_
        show Steps p.tables e below (T173.setTop (mkF m 47 #[.val (.int p0), .val (.int p1), .val (.int v1), .val (.int v2), .val (.ref b101), .unset] [(.int (1 : Int32)), (.int ((33893 : Int32) >>> (((v1 * (4 : Int32)) + v2) &&& 31)))])) _
        refine XS.iand X173.here hx rfl (hb hby at_47) rfl ?_
        show Steps p.tables e below (T173.setTop (mkF m 48 #[.val (.int p0), .val (.int p1), .val (.int v1), .val (.int v2), .val (.ref b101), .unset] [(.int (((33893 : Int32) >>> (((v1 * (4 : Int32)) + v2) &&& 31)) &&& (1 : Int32)))])) _
        refine st249 _ ?_
        show Steps p.tables e below (T249.setTop (mkF m 56 #[.val (.int p0), .val (.int p1), .val (.int v1), .val (.int v2), .val (.ref b101), .unset] [(.int v32)])) _
        refine XS.istore X249.here hx rfl (hb hby at_56) rfl (l' := #[.val (.int p0), .val (.int p1), .val (.int v1), .val (.int v2), .val (.ref b101), .val (.int v32)]) rfl ?_
        show Steps p.tables e below (T249.setTop (mkF m 58 #[.val (.int p0), .val (.int p1), .val (.int v1), .val (.int v2), .val (.ref b101), .val (.int v32)] [])) _
        refine XS.aload X249.here hx rfl (hb hby at_58) rfl rfl ?_
        show Steps p.tables e below (T249.setTop (mkF m 60 #[.val (.int p0), .val (.int p1), .val (.int v1), .val (.int v2), .val (.ref b101), .val (.int v32)] [(.ref b101)])) _
        refine XS.iloadN X249.here hx rfl (hb hby at_60) rfl ?_
        show Steps p.tables e below (T249.setTop (mkF m 61 #[.val (.int p0), .val (.int p1), .val (.int v1), .val (.int v2), .val (.ref b101), .val (.int v32)] [(.int v1), (.ref b101)])) _
        refine own_ldR X249 hx hZ e249 B173n (j := v1) (v := (.ref u_Network_Shape_STAR)) hin61_250 (by rw [hs38_24]; rfl) (g := (mkF m 61 #[.val (.int p0), .val (.int p1), .val (.int v1), .val (.int v2), .val (.ref b101), .val (.int v32)] [(.int v1), (.ref b101)])) rfl rfl (hb hby at_61) _ ?_
        show Steps p.tables e below (T249.setTop (mkF m 62 #[.val (.int p0), .val (.int p1), .val (.int v1), .val (.int v2), .val (.ref b101), .val (.int v32)] [(.ref u_Network_Shape_STAR)])) _
        refine XS.aload X249.here hx rfl (hb hby at_62) rfl rfl ?_
        show Steps p.tables e below (T249.setTop (mkF m 64 #[.val (.int p0), .val (.int p1), .val (.int v1), .val (.int v2), .val (.ref b101), .val (.int v32)] [(.ref b101), (.ref u_Network_Shape_STAR)])) _
        refine XS.iloadN X249.here hx rfl (hb hby at_64) rfl ?_
        show Steps p.tables e below (T249.setTop (mkF m 65 #[.val (.int p0), .val (.int p1), .val (.int v1), .val (.int v2), .val (.ref b101), .val (.int v32)] [(.int v2), (.ref b101), (.ref u_Network_Shape_STAR)])) _
        refine own_ldR X249 hx hZ e249 B173n (j := v2) (v := (.ref u_Network_Shape_STAR)) hin65_251 (by rw [hs40_30]; rfl) (g := (mkF m 65 #[.val (.int p0), .val (.int p1), .val (.int v1), .val (.int v2), .val (.ref b101), .val (.int v32)] [(.int v2), (.ref b101), (.ref u_Network_Shape_STAR)])) rfl rfl (hb hby at_65) _ ?_
        show Steps p.tables e below (T249.setTop (mkF m 66 #[.val (.int p0), .val (.int p1), .val (.int v1), .val (.int v2), .val (.ref b101), .val (.int v32)] [(.ref u_Network_Shape_STAR), (.ref u_Network_Shape_STAR)])) _
        refine st252.trans ?_
        show Steps p.tables e below (T252.setTop (mkF m 69 #[.val (.int p0), .val (.int p1), .val (.int v1), .val (.int v2), .val (.ref b101), .val (.int v32)] [(.int (own_r1 u_Network_Shape_STAR u_Network_Shape_STAR u_Network_Shape_TREE u_Network_Shape_GENERAL))])) _
        refine XS.iload X252.here hx rfl (hb hby at_69) rfl ?_
        show Steps p.tables e below (T252.setTop (mkF m 71 #[.val (.int p0), .val (.int p1), .val (.int v1), .val (.int v2), .val (.ref b101), .val (.int v32)] [(.int v32), (.int (own_r1 u_Network_Shape_STAR u_Network_Shape_STAR u_Network_Shape_TREE u_Network_Shape_GENERAL))])) _
        refine st255 _ ?_
        exact kt
      refine own_go hgo256 ?_
      have hz257 : v34 = 1 := own_leaf5 (p0 := p0) (p1 := p1) (u_Network_Shape_PATH := u_Network_Shape_PATH) (u_Network_Shape_STAR := u_Network_Shape_STAR) (u_Network_Shape_TREE := u_Network_Shape_TREE) (u_Network_Shape_GENERAL := u_Network_Shape_GENERAL) hv1 hv2 hv32 hv34 hs38_3 hs38_24 hs40_25 hs40_30 hne01 hne02 hne03 hne10 hne12 hne13 hne20 hne21 hne23 hne30 hne31 hne32
      exact own_retZ X255 hx Bd.returns Bd.notSynchronized (hb hby at_79) (by decide) (by decide) (Or.inr hz257) ⟨by rw [hz257], N255⟩
    by_cases hs40_35 : v2 = (2 : Int32)
    · obtain ⟨v37, hv37⟩ : ∃ z : Int32, z = (if (((33893 : Int32) >>> (((v1 * (4 : Int32)) + v2) &&& 31)) &&& (1 : Int32)) = (0 : Int32) then (0 : Int32) else (1 : Int32)) := ⟨_, rfl⟩
      obtain ⟨T260, lc260, X260, N260, e260, st260⟩ := own_mrg (n0 := n0) (h := h173) (g := (mkF m 48 #[.val (.int p0), .val (.int p1), .val (.int v1), .val (.int v2), .val (.ref b101), .unset] [(.int (((33893 : Int32) >>> (((v1 * (4 : Int32)) + v2) &&& 31)) &&& (1 : Int32)))])) (g' := (mkF m 56 #[.val (.int p0), .val (.int p1), .val (.int v1), .val (.int v2), .val (.ref b101), .unset] [(.int v37)])) X173 (by
        by_cases hc48_36 : (((33893 : Int32) >>> (((v1 * (4 : Int32)) + v2) &&& 31)) &&& (1 : Int32)) = (0 : Int32)
        · have hgo258 : ∀ t, Steps p.tables e below (T173.setTop (mkF m 56 #[.val (.int p0), .val (.int p1), .val (.int v1), .val (.int v2), .val (.ref b101), .unset] [(.int (0 : Int32))])) t → Steps p.tables e below (T173.setTop (mkF m 48 #[.val (.int p0), .val (.int p1), .val (.int v1), .val (.int v2), .val (.ref b101), .unset] [(.int (((33893 : Int32) >>> (((v1 * (4 : Int32)) + v2) &&& 31)) &&& (1 : Int32)))])) t := by
            intro t kt
            show Steps p.tables e below (T173.setTop (mkF m 48 #[.val (.int p0), .val (.int p1), .val (.int v1), .val (.int v2), .val (.ref b101), .unset] [(.int (((33893 : Int32) >>> (((v1 * (4 : Int32)) + v2) &&& 31)) &&& (1 : Int32)))])) _
            refine XS.ifYes X173.here hx rfl (pc0 := 48) (pc' := 55) rfl (hb hby at_48) rfl ((if0 _ _).trans (teq hc48_36).1) (by decide) (by decide) ?_
            show Steps p.tables e below (T173.setTop (mkF m 55 #[.val (.int p0), .val (.int p1), .val (.int v1), .val (.int v2), .val (.ref b101), .unset] [])) _
            refine XS.iconst X173.here hx rfl (hb hby at_55) ?_
            exact kt
          refine own_arm hgo258 ?_
          exact own_armEnd X173 N188 e173 (by rw [hv37.trans (if_pos hc48_36)])
        · have hgo259 : ∀ t, Steps p.tables e below (T173.setTop (mkF m 56 #[.val (.int p0), .val (.int p1), .val (.int v1), .val (.int v2), .val (.ref b101), .unset] [(.int (1 : Int32))])) t → Steps p.tables e below (T173.setTop (mkF m 48 #[.val (.int p0), .val (.int p1), .val (.int v1), .val (.int v2), .val (.ref b101), .unset] [(.int (((33893 : Int32) >>> (((v1 * (4 : Int32)) + v2) &&& 31)) &&& (1 : Int32)))])) t := by
            intro t kt
            show Steps p.tables e below (T173.setTop (mkF m 48 #[.val (.int p0), .val (.int p1), .val (.int v1), .val (.int v2), .val (.ref b101), .unset] [(.int (((33893 : Int32) >>> (((v1 * (4 : Int32)) + v2) &&& 31)) &&& (1 : Int32)))])) _
            refine XS.ifNo X173.here hx rfl (hb hby at_48) rfl ((if0 _ _).trans (feq hc48_36).1) ?_
            show Steps p.tables e below (T173.setTop (mkF m 51 #[.val (.int p0), .val (.int p1), .val (.int v1), .val (.int v2), .val (.ref b101), .unset] [])) _
            refine XS.iconst X173.here hx rfl (hb hby at_51) ?_
            show Steps p.tables e below (T173.setTop (mkF m 52 #[.val (.int p0), .val (.int p1), .val (.int v1), .val (.int v2), .val (.ref b101), .unset] [(.int (1 : Int32))])) _
            refine XS.goto X173.here hx rfl (pc0 := 52) (pc' := 56) rfl (hb hby at_52) (by decide) (by decide) ?_
            exact kt
          refine own_arm hgo259 ?_
          exact own_armEnd X173 N188 e173 (by rw [hv37.trans (if_neg hc48_36)]))
      have hin61_261 : ¬ v1 < 0 ∧ v1.toNatClampNeg < 4 := by rw [hs38_24]; decide
      have hin65_262 : ¬ v2 < 0 ∧ v2.toNatClampNeg < 4 := by rw [hs40_35]; decide
      obtain ⟨cq263, kq263, q263a, q263b, q263c⟩ := isOf hZ e260 F177
      obtain ⟨_, _, ⟨T263, L263, k263, n263⟩, -, X263, ⟨Lc263, hQ263, l263, y263, z263⟩, st263⟩ := X260.virtualBack hx (y := (⟨"com/example/swapgraph/swapgraph/Network$Shape", "within", "(Lcom/example/swapgraph/swapgraph/Network$Shape;)Z"⟩ : MethodName)) (z := (⟨"com/example/swapgraph/swapgraph/Network$Shape", "within", "(Lcom/example/swapgraph/swapgraph/Network$Shape;)Z"⟩ : MethodName)) hown (mvT hZ (hw _ (List.mem_of_getElem? (i := 13) rfl))) (mvT hZ (hw _ (List.mem_of_getElem? (i := 14) rfl))) (notFace_of_selects (args := #[]) (mvT hZ (hw _ (List.mem_of_getElem? (i := 16) rfl)))) (mvT hZ (hw _ (List.mem_of_getElem? (i := 16) rfl))) (mvT hZ (hw _ (List.mem_of_getElem? (i := 15) rfl))) (by decide) (backOf (W := 0) (rm1 l Z a0 hw [] u_Network_Shape_STAR u_Network_Shape_TREE u_Network_Shape_TREE u_Network_Shape_GENERAL h173 n0 Z186 F178 F180) hZ (hw _ (List.mem_of_getElem? (i := 17) rfl)) (hw _ (List.mem_of_getElem? (i := 3) rfl)) (by decide) (by decide)) q263a q263c (g := (mkF m 66 #[.val (.int p0), .val (.int p1), .val (.int v1), .val (.int v2), .val (.ref b101), .val (.int v37)] [(.ref u_Network_Shape_TREE), (.ref u_Network_Shape_STAR)])) rfl (by rw [hml]; rfl) (Steps.refl _) (argsL := [(.ref u_Network_Shape_TREE)]) (rest := []) (lenOf pd1 rfl) rfl (by show 2 * 0 + _ ≤ _; exact Nat.le_of_eq rfl) (hb hby at_66) (fun _ _ => ⟨rfl, e260, (by decide : 1 + 0 ≤ _), (by decide : 4 + 0 ≤ _)⟩)
      dsimp only [Pt.U, Pt.locs, Pt.cells, Pt.slots] at X263 l263 y263 z263 st263 hQ263
      subst l263 y263 z263
      obtain ⟨rfl, N263q, e263⟩ := hQ263
      have N263 := Fr.app N260 N263q
      obtain ⟨v39, hv39⟩ : ∃ z : Int32, z = (if (own_r1 u_Network_Shape_STAR u_Network_Shape_TREE u_Network_Shape_TREE u_Network_Shape_GENERAL) = v37 then (1 : Int32) else (0 : Int32)) := ⟨_, rfl⟩
      obtain ⟨T266, lc266, X266, N266, e266, st266⟩ := own_mrg (n0 := n0) (h := h173) (g := (mkF m 71 #[.val (.int p0), .val (.int p1), .val (.int v1), .val (.int v2), .val (.ref b101), .val (.int v37)] [(.int v37), (.int (own_r1 u_Network_Shape_STAR u_Network_Shape_TREE u_Network_Shape_TREE u_Network_Shape_GENERAL))])) (g' := (mkF m 79 #[.val (.int p0), .val (.int p1), .val (.int v1), .val (.int v2), .val (.ref b101), .val (.int v37)] [(.int v39)])) X263 (by
        by_cases hc71_38 : (own_r1 u_Network_Shape_STAR u_Network_Shape_TREE u_Network_Shape_TREE u_Network_Shape_GENERAL) = v37
        · have hgo264 : ∀ t, Steps p.tables e below (T263.setTop (mkF m 79 #[.val (.int p0), .val (.int p1), .val (.int v1), .val (.int v2), .val (.ref b101), .val (.int v37)] [(.int (1 : Int32))])) t → Steps p.tables e below (T263.setTop (mkF m 71 #[.val (.int p0), .val (.int p1), .val (.int v1), .val (.int v2), .val (.ref b101), .val (.int v37)] [(.int v37), (.int (own_r1 u_Network_Shape_STAR u_Network_Shape_TREE u_Network_Shape_TREE u_Network_Shape_GENERAL))])) t := by
            intro t kt
            show Steps p.tables e below (T263.setTop (mkF m 71 #[.val (.int p0), .val (.int p1), .val (.int v1), .val (.int v2), .val (.ref b101), .val (.int v37)] [(.int v37), (.int (own_r1 u_Network_Shape_STAR u_Network_Shape_TREE u_Network_Shape_TREE u_Network_Shape_GENERAL))])) _
            refine XS.icmpNo X263.here hx rfl (hb hby at_71) rfl (teq hc71_38).2 ?_
            show Steps p.tables e below (T263.setTop (mkF m 74 #[.val (.int p0), .val (.int p1), .val (.int v1), .val (.int v2), .val (.ref b101), .val (.int v37)] [])) _
            refine XS.iconst X263.here hx rfl (hb hby at_74) ?_
            show Steps p.tables e below (T263.setTop (mkF m 75 #[.val (.int p0), .val (.int p1), .val (.int v1), .val (.int v2), .val (.ref b101), .val (.int v37)] [(.int (1 : Int32))])) _
            refine XS.goto X263.here hx rfl (pc0 := 75) (pc' := 79) rfl (hb hby at_75) (by decide) (by decide) ?_
            exact kt
          refine own_arm hgo264 ?_
          exact own_armEnd X263 N263 e263 (by rw [hv39.trans (if_pos hc71_38)])
        · have hgo265 : ∀ t, Steps p.tables e below (T263.setTop (mkF m 79 #[.val (.int p0), .val (.int p1), .val (.int v1), .val (.int v2), .val (.ref b101), .val (.int v37)] [(.int (0 : Int32))])) t → Steps p.tables e below (T263.setTop (mkF m 71 #[.val (.int p0), .val (.int p1), .val (.int v1), .val (.int v2), .val (.ref b101), .val (.int v37)] [(.int v37), (.int (own_r1 u_Network_Shape_STAR u_Network_Shape_TREE u_Network_Shape_TREE u_Network_Shape_GENERAL))])) t := by
            intro t kt
            show Steps p.tables e below (T263.setTop (mkF m 71 #[.val (.int p0), .val (.int p1), .val (.int v1), .val (.int v2), .val (.ref b101), .val (.int v37)] [(.int v37), (.int (own_r1 u_Network_Shape_STAR u_Network_Shape_TREE u_Network_Shape_TREE u_Network_Shape_GENERAL))])) _
            refine XS.icmpYes X263.here hx rfl (pc0 := 71) (pc' := 78) rfl (hb hby at_71) rfl (feq hc71_38).2 (by decide) (by decide) ?_
            show Steps p.tables e below (T263.setTop (mkF m 78 #[.val (.int p0), .val (.int p1), .val (.int v1), .val (.int v2), .val (.ref b101), .val (.int v37)] [])) _
            refine XS.iconst X263.here hx rfl (hb hby at_78) ?_
            exact kt
          refine own_arm hgo265 ?_
          exact own_armEnd X263 N263 e263 (by rw [hv39.trans (if_neg hc71_38)]))
      have hgo267 : ∀ t, Steps p.tables e below (T266.setTop (mkF m 79 #[.val (.int p0), .val (.int p1), .val (.int v1), .val (.int v2), .val (.ref b101), .val (.int v37)] [(.int v39)])) t → Steps p.tables e below (T173.setTop (mkF m 40 #[.val (.int p0), .val (.int p1), .val (.int v1), .val (.int v2), .val (.ref b101), .unset] [(.int (33893 : Int32))])) t := by
        intro t kt
        show Steps p.tables e below (T173.setTop (mkF m 40 #[.val (.int p0), .val (.int p1), .val (.int v1), .val (.int v2), .val (.ref b101), .unset] [(.int (33893 : Int32))])) _
        refine XS.iloadN X173.here hx rfl (hb hby at_40) rfl ?_
        show Steps p.tables e below (T173.setTop (mkF m 41 #[.val (.int p0), .val (.int p1), .val (.int v1), .val (.int v2), .val (.ref b101), .unset] [(.int v1), (.int (33893 : Int32))])) _
        refine XS.iconst X173.here hx rfl (hb hby at_41) ?_
        show Steps p.tables e below (T173.setTop (mkF m 42 #[.val (.int p0), .val (.int p1), .val (.int v1), .val (.int v2), .val (.ref b101), .unset] [(.int (4 : Int32)), (.int v1), (.int (33893 : Int32))])) _
        refine XS.imul X173.here hx rfl (hb hby at_42) rfl ?_
        show Steps p.tables e below (T173.setTop (mkF m 43 #[.val (.int p0), .val (.int p1), .val (.int v1), .val (.int v2), .val (.ref b101), .unset] [(.int (v1 * (4 : Int32))), (.int (33893 : Int32))])) _
        refine XS.iloadN X173.here hx rfl (hb hby at_43) rfl ?_
        show Steps p.tables e below (T173.setTop (mkF m 44 #[.val (.int p0), .val (.int p1), .val (.int v1), .val (.int v2), .val (.ref b101), .unset] [(.int v2), (.int (v1 * (4 : Int32))), (.int (33893 : Int32))])) _
        refine XS.iadd X173.here hx rfl (hb hby at_44) rfl ?_
        show Steps p.tables e below (T173.setTop (mkF m 45 #[.val (.int p0), .val (.int p1), .val (.int v1), .val (.int v2), .val (.ref b101), .unset] [(.int ((v1 * (4 : Int32)) + v2)), (.int (33893 : Int32))])) _
        refine XS.ishr X173.here hx rfl (hb hby at_45) rfl ?_
        show Steps p.tables e below (T173.setTop (mkF m 46 #[.val (.int p0), .val (.int p1), .val (.int v1), .val (.int v2), .val (.ref b101), .unset] [(.int ((33893 : Int32) >>> (((v1 * (4 : Int32)) + v2) &&& 31)))])) _
        refine XS.iconst X173.here hx rfl (hb hby at_46) ?_
        show Steps p.tables e below (T173.setTop (mkF m 47 #[.val (.int p0), .val (.int p1), .val (.int v1), .val (.int v2), .val (.ref b101), .unset] [(.int (1 : Int32)), (.int ((33893 : Int32) >>> (((v1 * (4 : Int32)) + v2) &&& 31)))])) _
        refine XS.iand X173.here hx rfl (hb hby at_47) rfl ?_
        show Steps p.tables e below (T173.setTop (mkF m 48 #[.val (.int p0), .val (.int p1), .val (.int v1), .val (.int v2), .val (.ref b101), .unset] [(.int (((33893 : Int32) >>> (((v1 * (4 : Int32)) + v2) &&& 31)) &&& (1 : Int32)))])) _
        refine st260 _ ?_
        show Steps p.tables e below (T260.setTop (mkF m 56 #[.val (.int p0), .val (.int p1), .val (.int v1), .val (.int v2), .val (.ref b101), .unset] [(.int v37)])) _
        refine XS.istore X260.here hx rfl (hb hby at_56) rfl (l' := #[.val (.int p0), .val (.int p1), .val (.int v1), .val (.int v2), .val (.ref b101), .val (.int v37)]) rfl ?_
        show Steps p.tables e below (T260.setTop (mkF m 58 #[.val (.int p0), .val (.int p1), .val (.int v1), .val (.int v2), .val (.ref b101), .val (.int v37)] [])) _
        refine XS.aload X260.here hx rfl (hb hby at_58) rfl rfl ?_
        show Steps p.tables e below (T260.setTop (mkF m 60 #[.val (.int p0), .val (.int p1), .val (.int v1), .val (.int v2), .val (.ref b101), .val (.int v37)] [(.ref b101)])) _
        refine XS.iloadN X260.here hx rfl (hb hby at_60) rfl ?_
        show Steps p.tables e below (T260.setTop (mkF m 61 #[.val (.int p0), .val (.int p1), .val (.int v1), .val (.int v2), .val (.ref b101), .val (.int v37)] [(.int v1), (.ref b101)])) _
        refine own_ldR X260 hx hZ e260 B173n (j := v1) (v := (.ref u_Network_Shape_STAR)) hin61_261 (by rw [hs38_24]; rfl) (g := (mkF m 61 #[.val (.int p0), .val (.int p1), .val (.int v1), .val (.int v2), .val (.ref b101), .val (.int v37)] [(.int v1), (.ref b101)])) rfl rfl (hb hby at_61) _ ?_
        show Steps p.tables e below (T260.setTop (mkF m 62 #[.val (.int p0), .val (.int p1), .val (.int v1), .val (.int v2), .val (.ref b101), .val (.int v37)] [(.ref u_Network_Shape_STAR)])) _
        refine XS.aload X260.here hx rfl (hb hby at_62) rfl rfl ?_
        show Steps p.tables e below (T260.setTop (mkF m 64 #[.val (.int p0), .val (.int p1), .val (.int v1), .val (.int v2), .val (.ref b101), .val (.int v37)] [(.ref b101), (.ref u_Network_Shape_STAR)])) _
        refine XS.iloadN X260.here hx rfl (hb hby at_64) rfl ?_
        show Steps p.tables e below (T260.setTop (mkF m 65 #[.val (.int p0), .val (.int p1), .val (.int v1), .val (.int v2), .val (.ref b101), .val (.int v37)] [(.int v2), (.ref b101), (.ref u_Network_Shape_STAR)])) _
        refine own_ldR X260 hx hZ e260 B173n (j := v2) (v := (.ref u_Network_Shape_TREE)) hin65_262 (by rw [hs40_35]; rfl) (g := (mkF m 65 #[.val (.int p0), .val (.int p1), .val (.int v1), .val (.int v2), .val (.ref b101), .val (.int v37)] [(.int v2), (.ref b101), (.ref u_Network_Shape_STAR)])) rfl rfl (hb hby at_65) _ ?_
        show Steps p.tables e below (T260.setTop (mkF m 66 #[.val (.int p0), .val (.int p1), .val (.int v1), .val (.int v2), .val (.ref b101), .val (.int v37)] [(.ref u_Network_Shape_TREE), (.ref u_Network_Shape_STAR)])) _
        refine st263.trans ?_
        show Steps p.tables e below (T263.setTop (mkF m 69 #[.val (.int p0), .val (.int p1), .val (.int v1), .val (.int v2), .val (.ref b101), .val (.int v37)] [(.int (own_r1 u_Network_Shape_STAR u_Network_Shape_TREE u_Network_Shape_TREE u_Network_Shape_GENERAL))])) _
        refine XS.iload X263.here hx rfl (hb hby at_69) rfl ?_
        show Steps p.tables e below (T263.setTop (mkF m 71 #[.val (.int p0), .val (.int p1), .val (.int v1), .val (.int v2), .val (.ref b101), .val (.int v37)] [(.int v37), (.int (own_r1 u_Network_Shape_STAR u_Network_Shape_TREE u_Network_Shape_TREE u_Network_Shape_GENERAL))])) _
        refine st266 _ ?_
        exact kt
      refine own_go hgo267 ?_
      have hz268 : v39 = 1 := own_leaf6 (p0 := p0) (p1 := p1) (u_Network_Shape_PATH := u_Network_Shape_PATH) (u_Network_Shape_STAR := u_Network_Shape_STAR) (u_Network_Shape_TREE := u_Network_Shape_TREE) (u_Network_Shape_GENERAL := u_Network_Shape_GENERAL) hv1 hv2 hv37 hv39 hs38_3 hs38_24 hs40_25 hs40_30 hs40_35 hne01 hne02 hne03 hne10 hne12 hne13 hne20 hne21 hne23 hne30 hne31 hne32
      exact own_retZ X266 hx Bd.returns Bd.notSynchronized (hb hby at_79) (by decide) (by decide) (Or.inr hz268) ⟨by rw [hz268], N266⟩
    · have hs40_40 : v2 = (3 : Int32) := own_is3 hv2 hs40_25 hs40_30 hs40_35
      obtain ⟨v42, hv42⟩ : ∃ z : Int32, z = (if (((33893 : Int32) >>> (((v1 * (4 : Int32)) + v2) &&& 31)) &&& (1 : Int32)) = (0 : Int32) then (0 : Int32) else (1 : Int32)) := ⟨_, rfl⟩
      obtain ⟨T271, lc271, X271, N271, e271, st271⟩ := own_mrg (n0 := n0) (h := h173) (g := (mkF m 48 #[.val (.int p0), .val (.int p1), .val (.int v1), .val (.int v2), .val (.ref b101), .unset] [(.int (((33893 : Int32) >>> (((v1 * (4 : Int32)) + v2) &&& 31)) &&& (1 : Int32)))])) (g' := (mkF m 56 #[.val (.int p0), .val (.int p1), .val (.int v1), .val (.int v2), .val (.ref b101), .unset] [(.int v42)])) X173 (by
        by_cases hc48_41 : (((33893 : Int32) >>> (((v1 * (4 : Int32)) + v2) &&& 31)) &&& (1 : Int32)) = (0 : Int32)
        · have hgo269 : ∀ t, Steps p.tables e below (T173.setTop (mkF m 56 #[.val (.int p0), .val (.int p1), .val (.int v1), .val (.int v2), .val (.ref b101), .unset] [(.int (0 : Int32))])) t → Steps p.tables e below (T173.setTop (mkF m 48 #[.val (.int p0), .val (.int p1), .val (.int v1), .val (.int v2), .val (.ref b101), .unset] [(.int (((33893 : Int32) >>> (((v1 * (4 : Int32)) + v2) &&& 31)) &&& (1 : Int32)))])) t := by
            intro t kt
            show Steps p.tables e below (T173.setTop (mkF m 48 #[.val (.int p0), .val (.int p1), .val (.int v1), .val (.int v2), .val (.ref b101), .unset] [(.int (((33893 : Int32) >>> (((v1 * (4 : Int32)) + v2) &&& 31)) &&& (1 : Int32)))])) _
            refine XS.ifYes X173.here hx rfl (pc0 := 48) (pc' := 55) rfl (hb hby at_48) rfl ((if0 _ _).trans (teq hc48_41).1) (by decide) (by decide) ?_
            show Steps p.tables e below (T173.setTop (mkF m 55 #[.val (.int p0), .val (.int p1), .val (.int v1), .val (.int v2), .val (.ref b101), .unset] [])) _
            refine XS.iconst X173.here hx rfl (hb hby at_55) ?_
            exact kt
          refine own_arm hgo269 ?_
          exact own_armEnd X173 N188 e173 (by rw [hv42.trans (if_pos hc48_41)])
        · have hgo270 : ∀ t, Steps p.tables e below (T173.setTop (mkF m 56 #[.val (.int p0), .val (.int p1), .val (.int v1), .val (.int v2), .val (.ref b101), .unset] [(.int (1 : Int32))])) t → Steps p.tables e below (T173.setTop (mkF m 48 #[.val (.int p0), .val (.int p1), .val (.int v1), .val (.int v2), .val (.ref b101), .unset] [(.int (((33893 : Int32) >>> (((v1 * (4 : Int32)) + v2) &&& 31)) &&& (1 : Int32)))])) t := by
            intro t kt
            show Steps p.tables e below (T173.setTop (mkF m 48 #[.val (.int p0), .val (.int p1), .val (.int v1), .val (.int v2), .val (.ref b101), .unset] [(.int (((33893 : Int32) >>> (((v1 * (4 : Int32)) + v2) &&& 31)) &&& (1 : Int32)))])) _
            refine XS.ifNo X173.here hx rfl (hb hby at_48) rfl ((if0 _ _).trans (feq hc48_41).1) ?_
            show Steps p.tables e below (T173.setTop (mkF m 51 #[.val (.int p0), .val (.int p1), .val (.int v1), .val (.int v2), .val (.ref b101), .unset] [])) _
            refine XS.iconst X173.here hx rfl (hb hby at_51) ?_
            show Steps p.tables e below (T173.setTop (mkF m 52 #[.val (.int p0), .val (.int p1), .val (.int v1), .val (.int v2), .val (.ref b101), .unset] [(.int (1 : Int32))])) _
            refine XS.goto X173.here hx rfl (pc0 := 52) (pc' := 56) rfl (hb hby at_52) (by decide) (by decide) ?_
            exact kt
          refine own_arm hgo270 ?_
          exact own_armEnd X173 N188 e173 (by rw [hv42.trans (if_neg hc48_41)]))
      have hin61_272 : ¬ v1 < 0 ∧ v1.toNatClampNeg < 4 := by rw [hs38_24]; decide
      have hin65_273 : ¬ v2 < 0 ∧ v2.toNatClampNeg < 4 := by rw [hs40_40]; decide
      obtain ⟨cq274, kq274, q274a, q274b, q274c⟩ := isOf hZ e271 F177
      obtain ⟨_, _, ⟨T274, L274, k274, n274⟩, -, X274, ⟨Lc274, hQ274, l274, y274, z274⟩, st274⟩ := X271.virtualBack hx (y := (⟨"com/example/swapgraph/swapgraph/Network$Shape", "within", "(Lcom/example/swapgraph/swapgraph/Network$Shape;)Z"⟩ : MethodName)) (z := (⟨"com/example/swapgraph/swapgraph/Network$Shape", "within", "(Lcom/example/swapgraph/swapgraph/Network$Shape;)Z"⟩ : MethodName)) hown (mvT hZ (hw _ (List.mem_of_getElem? (i := 13) rfl))) (mvT hZ (hw _ (List.mem_of_getElem? (i := 14) rfl))) (notFace_of_selects (args := #[]) (mvT hZ (hw _ (List.mem_of_getElem? (i := 16) rfl)))) (mvT hZ (hw _ (List.mem_of_getElem? (i := 16) rfl))) (mvT hZ (hw _ (List.mem_of_getElem? (i := 15) rfl))) (by decide) (backOf (W := 0) (rm1 l Z a0 hw [] u_Network_Shape_STAR u_Network_Shape_GENERAL u_Network_Shape_TREE u_Network_Shape_GENERAL h173 n0 Z186 F178 F180) hZ (hw _ (List.mem_of_getElem? (i := 17) rfl)) (hw _ (List.mem_of_getElem? (i := 3) rfl)) (by decide) (by decide)) q274a q274c (g := (mkF m 66 #[.val (.int p0), .val (.int p1), .val (.int v1), .val (.int v2), .val (.ref b101), .val (.int v42)] [(.ref u_Network_Shape_GENERAL), (.ref u_Network_Shape_STAR)])) rfl (by rw [hml]; rfl) (Steps.refl _) (argsL := [(.ref u_Network_Shape_GENERAL)]) (rest := []) (lenOf pd1 rfl) rfl (by show 2 * 0 + _ ≤ _; exact Nat.le_of_eq rfl) (hb hby at_66) (fun _ _ => ⟨rfl, e271, (by decide : 1 + 0 ≤ _), (by decide : 4 + 0 ≤ _)⟩)
      dsimp only [Pt.U, Pt.locs, Pt.cells, Pt.slots] at X274 l274 y274 z274 st274 hQ274
      subst l274 y274 z274
      obtain ⟨rfl, N274q, e274⟩ := hQ274
      have N274 := Fr.app N271 N274q
      obtain ⟨v44, hv44⟩ : ∃ z : Int32, z = (if (own_r1 u_Network_Shape_STAR u_Network_Shape_GENERAL u_Network_Shape_TREE u_Network_Shape_GENERAL) = v42 then (1 : Int32) else (0 : Int32)) := ⟨_, rfl⟩
      obtain ⟨T277, lc277, X277, N277, e277, st277⟩ := own_mrg (n0 := n0) (h := h173) (g := (mkF m 71 #[.val (.int p0), .val (.int p1), .val (.int v1), .val (.int v2), .val (.ref b101), .val (.int v42)] [(.int v42), (.int (own_r1 u_Network_Shape_STAR u_Network_Shape_GENERAL u_Network_Shape_TREE u_Network_Shape_GENERAL))])) (g' := (mkF m 79 #[.val (.int p0), .val (.int p1), .val (.int v1), .val (.int v2), .val (.ref b101), .val (.int v42)] [(.int v44)])) X274 (by
        by_cases hc71_43 : (own_r1 u_Network_Shape_STAR u_Network_Shape_GENERAL u_Network_Shape_TREE u_Network_Shape_GENERAL) = v42
        · have hgo275 : ∀ t, Steps p.tables e below (T274.setTop (mkF m 79 #[.val (.int p0), .val (.int p1), .val (.int v1), .val (.int v2), .val (.ref b101), .val (.int v42)] [(.int (1 : Int32))])) t → Steps p.tables e below (T274.setTop (mkF m 71 #[.val (.int p0), .val (.int p1), .val (.int v1), .val (.int v2), .val (.ref b101), .val (.int v42)] [(.int v42), (.int (own_r1 u_Network_Shape_STAR u_Network_Shape_GENERAL u_Network_Shape_TREE u_Network_Shape_GENERAL))])) t := by
            intro t kt
            show Steps p.tables e below (T274.setTop (mkF m 71 #[.val (.int p0), .val (.int p1), .val (.int v1), .val (.int v2), .val (.ref b101), .val (.int v42)] [(.int v42), (.int (own_r1 u_Network_Shape_STAR u_Network_Shape_GENERAL u_Network_Shape_TREE u_Network_Shape_GENERAL))])) _
            refine XS.icmpNo X274.here hx rfl (hb hby at_71) rfl (teq hc71_43).2 ?_
            show Steps p.tables e below (T274.setTop (mkF m 74 #[.val (.int p0), .val (.int p1), .val (.int v1), .val (.int v2), .val (.ref b101), .val (.int v42)] [])) _
            refine XS.iconst X274.here hx rfl (hb hby at_74) ?_
            show Steps p.tables e below (T274.setTop (mkF m 75 #[.val (.int p0), .val (.int p1), .val (.int v1), .val (.int v2), .val (.ref b101), .val (.int v42)] [(.int (1 : Int32))])) _
            refine XS.goto X274.here hx rfl (pc0 := 75) (pc' := 79) rfl (hb hby at_75) (by decide) (by decide) ?_
            exact kt
          refine own_arm hgo275 ?_
          exact own_armEnd X274 N274 e274 (by rw [hv44.trans (if_pos hc71_43)])
        · have hgo276 : ∀ t, Steps p.tables e below (T274.setTop (mkF m 79 #[.val (.int p0), .val (.int p1), .val (.int v1), .val (.int v2), .val (.ref b101), .val (.int v42)] [(.int (0 : Int32))])) t → Steps p.tables e below (T274.setTop (mkF m 71 #[.val (.int p0), .val (.int p1), .val (.int v1), .val (.int v2), .val (.ref b101), .val (.int v42)] [(.int v42), (.int (own_r1 u_Network_Shape_STAR u_Network_Shape_GENERAL u_Network_Shape_TREE u_Network_Shape_GENERAL))])) t := by
            intro t kt
            show Steps p.tables e below (T274.setTop (mkF m 71 #[.val (.int p0), .val (.int p1), .val (.int v1), .val (.int v2), .val (.ref b101), .val (.int v42)] [(.int v42), (.int (own_r1 u_Network_Shape_STAR u_Network_Shape_GENERAL u_Network_Shape_TREE u_Network_Shape_GENERAL))])) _
            refine XS.icmpYes X274.here hx rfl (pc0 := 71) (pc' := 78) rfl (hb hby at_71) rfl (feq hc71_43).2 (by decide) (by decide) ?_
            show Steps p.tables e below (T274.setTop (mkF m 78 #[.val (.int p0), .val (.int p1), .val (.int v1), .val (.int v2), .val (.ref b101), .val (.int v42)] [])) _
            refine XS.iconst X274.here hx rfl (hb hby at_78) ?_
            exact kt
          refine own_arm hgo276 ?_
          exact own_armEnd X274 N274 e274 (by rw [hv44.trans (if_neg hc71_43)]))
      have hgo278 : ∀ t, Steps p.tables e below (T277.setTop (mkF m 79 #[.val (.int p0), .val (.int p1), .val (.int v1), .val (.int v2), .val (.ref b101), .val (.int v42)] [(.int v44)])) t → Steps p.tables e below (T173.setTop (mkF m 40 #[.val (.int p0), .val (.int p1), .val (.int v1), .val (.int v2), .val (.ref b101), .unset] [(.int (33893 : Int32))])) t := by
        intro t kt
        show Steps p.tables e below (T173.setTop (mkF m 40 #[.val (.int p0), .val (.int p1), .val (.int v1), .val (.int v2), .val (.ref b101), .unset] [(.int (33893 : Int32))])) _
        refine XS.iloadN X173.here hx rfl (hb hby at_40) rfl ?_
        show Steps p.tables e below (T173.setTop (mkF m 41 #[.val (.int p0), .val (.int p1), .val (.int v1), .val (.int v2), .val (.ref b101), .unset] [(.int v1), (.int (33893 : Int32))])) _
        refine XS.iconst X173.here hx rfl (hb hby at_41) ?_
        show Steps p.tables e below (T173.setTop (mkF m 42 #[.val (.int p0), .val (.int p1), .val (.int v1), .val (.int v2), .val (.ref b101), .unset] [(.int (4 : Int32)), (.int v1), (.int (33893 : Int32))])) _
        refine XS.imul X173.here hx rfl (hb hby at_42) rfl ?_
        show Steps p.tables e below (T173.setTop (mkF m 43 #[.val (.int p0), .val (.int p1), .val (.int v1), .val (.int v2), .val (.ref b101), .unset] [(.int (v1 * (4 : Int32))), (.int (33893 : Int32))])) _
        refine XS.iloadN X173.here hx rfl (hb hby at_43) rfl ?_
        show Steps p.tables e below (T173.setTop (mkF m 44 #[.val (.int p0), .val (.int p1), .val (.int v1), .val (.int v2), .val (.ref b101), .unset] [(.int v2), (.int (v1 * (4 : Int32))), (.int (33893 : Int32))])) _
        refine XS.iadd X173.here hx rfl (hb hby at_44) rfl ?_
        show Steps p.tables e below (T173.setTop (mkF m 45 #[.val (.int p0), .val (.int p1), .val (.int v1), .val (.int v2), .val (.ref b101), .unset] [(.int ((v1 * (4 : Int32)) + v2)), (.int (33893 : Int32))])) _
        refine XS.ishr X173.here hx rfl (hb hby at_45) rfl ?_
        show Steps p.tables e below (T173.setTop (mkF m 46 #[.val (.int p0), .val (.int p1), .val (.int v1), .val (.int v2), .val (.ref b101), .unset] [(.int ((33893 : Int32) >>> (((v1 * (4 : Int32)) + v2) &&& 31)))])) _
        refine XS.iconst X173.here hx rfl (hb hby at_46) ?_
        show Steps p.tables e below (T173.setTop (mkF m 47 #[.val (.int p0), .val (.int p1), .val (.int v1), .val (.int v2), .val (.ref b101), .unset] [(.int (1 : Int32)), (.int ((33893 : Int32) >>> (((v1 * (4 : Int32)) + v2) &&& 31)))])) _
        refine XS.iand X173.here hx rfl (hb hby at_47) rfl ?_
        show Steps p.tables e below (T173.setTop (mkF m 48 #[.val (.int p0), .val (.int p1), .val (.int v1), .val (.int v2), .val (.ref b101), .unset] [(.int (((33893 : Int32) >>> (((v1 * (4 : Int32)) + v2) &&& 31)) &&& (1 : Int32)))])) _
        refine st271 _ ?_
        show Steps p.tables e below (T271.setTop (mkF m 56 #[.val (.int p0), .val (.int p1), .val (.int v1), .val (.int v2), .val (.ref b101), .unset] [(.int v42)])) _
        refine XS.istore X271.here hx rfl (hb hby at_56) rfl (l' := #[.val (.int p0), .val (.int p1), .val (.int v1), .val (.int v2), .val (.ref b101), .val (.int v42)]) rfl ?_
        show Steps p.tables e below (T271.setTop (mkF m 58 #[.val (.int p0), .val (.int p1), .val (.int v1), .val (.int v2), .val (.ref b101), .val (.int v42)] [])) _
        refine XS.aload X271.here hx rfl (hb hby at_58) rfl rfl ?_
        show Steps p.tables e below (T271.setTop (mkF m 60 #[.val (.int p0), .val (.int p1), .val (.int v1), .val (.int v2), .val (.ref b101), .val (.int v42)] [(.ref b101)])) _
        refine XS.iloadN X271.here hx rfl (hb hby at_60) rfl ?_
        show Steps p.tables e below (T271.setTop (mkF m 61 #[.val (.int p0), .val (.int p1), .val (.int v1), .val (.int v2), .val (.ref b101), .val (.int v42)] [(.int v1), (.ref b101)])) _
        refine own_ldR X271 hx hZ e271 B173n (j := v1) (v := (.ref u_Network_Shape_STAR)) hin61_272 (by rw [hs38_24]; rfl) (g := (mkF m 61 #[.val (.int p0), .val (.int p1), .val (.int v1), .val (.int v2), .val (.ref b101), .val (.int v42)] [(.int v1), (.ref b101)])) rfl rfl (hb hby at_61) _ ?_
        show Steps p.tables e below (T271.setTop (mkF m 62 #[.val (.int p0), .val (.int p1), .val (.int v1), .val (.int v2), .val (.ref b101), .val (.int v42)] [(.ref u_Network_Shape_STAR)])) _
        refine XS.aload X271.here hx rfl (hb hby at_62) rfl rfl ?_
        show Steps p.tables e below (T271.setTop (mkF m 64 #[.val (.int p0), .val (.int p1), .val (.int v1), .val (.int v2), .val (.ref b101), .val (.int v42)] [(.ref b101), (.ref u_Network_Shape_STAR)])) _
        refine XS.iloadN X271.here hx rfl (hb hby at_64) rfl ?_
        show Steps p.tables e below (T271.setTop (mkF m 65 #[.val (.int p0), .val (.int p1), .val (.int v1), .val (.int v2), .val (.ref b101), .val (.int v42)] [(.int v2), (.ref b101), (.ref u_Network_Shape_STAR)])) _
        refine own_ldR X271 hx hZ e271 B173n (j := v2) (v := (.ref u_Network_Shape_GENERAL)) hin65_273 (by rw [hs40_40]; rfl) (g := (mkF m 65 #[.val (.int p0), .val (.int p1), .val (.int v1), .val (.int v2), .val (.ref b101), .val (.int v42)] [(.int v2), (.ref b101), (.ref u_Network_Shape_STAR)])) rfl rfl (hb hby at_65) _ ?_
        show Steps p.tables e below (T271.setTop (mkF m 66 #[.val (.int p0), .val (.int p1), .val (.int v1), .val (.int v2), .val (.ref b101), .val (.int v42)] [(.ref u_Network_Shape_GENERAL), (.ref u_Network_Shape_STAR)])) _
        refine st274.trans ?_
        show Steps p.tables e below (T274.setTop (mkF m 69 #[.val (.int p0), .val (.int p1), .val (.int v1), .val (.int v2), .val (.ref b101), .val (.int v42)] [(.int (own_r1 u_Network_Shape_STAR u_Network_Shape_GENERAL u_Network_Shape_TREE u_Network_Shape_GENERAL))])) _
        refine XS.iload X274.here hx rfl (hb hby at_69) rfl ?_
        show Steps p.tables e below (T274.setTop (mkF m 71 #[.val (.int p0), .val (.int p1), .val (.int v1), .val (.int v2), .val (.ref b101), .val (.int v42)] [(.int v42), (.int (own_r1 u_Network_Shape_STAR u_Network_Shape_GENERAL u_Network_Shape_TREE u_Network_Shape_GENERAL))])) _
        refine st277 _ ?_
        exact kt
      refine own_go hgo278 ?_
      have hz279 : v44 = 1 := own_leaf7 (p0 := p0) (p1 := p1) (u_Network_Shape_PATH := u_Network_Shape_PATH) (u_Network_Shape_STAR := u_Network_Shape_STAR) (u_Network_Shape_TREE := u_Network_Shape_TREE) (u_Network_Shape_GENERAL := u_Network_Shape_GENERAL) hv1 hv2 hv42 hv44 hs38_3 hs38_24 hs40_25 hs40_30 hs40_35 hs40_40 hne01 hne02 hne03 hne10 hne12 hne13 hne20 hne21 hne23 hne30 hne31 hne32
      exact own_retZ X277 hx Bd.returns Bd.notSynchronized (hb hby at_79) (by decide) (by decide) (Or.inr hz279) ⟨by rw [hz279], N277⟩
  by_cases hs38_45 : v1 = (2 : Int32)
  · have hgo280 : ∀ t, Steps p.tables e below (T173.setTop (mkF m 40 #[.val (.int p0), .val (.int p1), .val (.int v1), .val (.int v2), .val (.ref b101), .unset] [(.int (33893 : Int32))])) t → Steps p.tables e below (T173.setTop (mkF m 38 #[.val (.int p0), .val (.int p1), .val (.int v1), .val (.int v2), .val (.ref b101), .unset] [])) t := by
      intro t kt
      show Steps p.tables e below (T173.setTop (mkF m 38 #[.val (.int p0), .val (.int p1), .val (.int v1), .val (.int v2), .val (.ref b101), .unset] [])) _
      refine X173.ldcInt hx hown (mvT hZ (hw _ (List.mem_of_getElem? (i := 12) rfl))) (g := (mkF m 38 #[.val (.int p0), .val (.int p1), .val (.int v1), .val (.int v2), .val (.ref b101), .unset] [])) rfl (hb hby at_38) _ ?_
      exact kt
    refine own_go hgo280 ?_
    by_cases hs40_46 : v2 = (0 : Int32)
    · obtain ⟨v48, hv48⟩ : ∃ z : Int32, z = (if (((33893 : Int32) >>> (((v1 * (4 : Int32)) + v2) &&& 31)) &&& (1 : Int32)) = (0 : Int32) then (0 : Int32) else (1 : Int32)) := ⟨_, rfl⟩
      obtain ⟨T283, lc283, X283, N283, e283, st283⟩ := own_mrg (n0 := n0) (h := h173) (g := (mkF m 48 #[.val (.int p0), .val (.int p1), .val (.int v1), .val (.int v2), .val (.ref b101), .unset] [(.int (((33893 : Int32) >>> (((v1 * (4 : Int32)) + v2) &&& 31)) &&& (1 : Int32)))])) (g' := (mkF m 56 #[.val (.int p0), .val (.int p1), .val (.int v1), .val (.int v2), .val (.ref b101), .unset] [(.int v48)])) X173 (by
        by_cases hc48_47 : (((33893 : Int32) >>> (((v1 * (4 : Int32)) + v2) &&& 31)) &&& (1 : Int32)) = (0 : Int32)
        · have hgo281 : ∀ t, Steps p.tables e below (T173.setTop (mkF m 56 #[.val (.int p0), .val (.int p1), .val (.int v1), .val (.int v2), .val (.ref b101), .unset] [(.int (0 : Int32))])) t → Steps p.tables e below (T173.setTop (mkF m 48 #[.val (.int p0), .val (.int p1), .val (.int v1), .val (.int v2), .val (.ref b101), .unset] [(.int (((33893 : Int32) >>> (((v1 * (4 : Int32)) + v2) &&& 31)) &&& (1 : Int32)))])) t := by
            intro t kt
            show Steps p.tables e below (T173.setTop (mkF m 48 #[.val (.int p0), .val (.int p1), .val (.int v1), .val (.int v2), .val (.ref b101), .unset] [(.int (((33893 : Int32) >>> (((v1 * (4 : Int32)) + v2) &&& 31)) &&& (1 : Int32)))])) _
            refine XS.ifYes X173.here hx rfl (pc0 := 48) (pc' := 55) rfl (hb hby at_48) rfl ((if0 _ _).trans (teq hc48_47).1) (by decide) (by decide) ?_
            show Steps p.tables e below (T173.setTop (mkF m 55 #[.val (.int p0), .val (.int p1), .val (.int v1), .val (.int v2), .val (.ref b101), .unset] [])) _
            refine XS.iconst X173.here hx rfl (hb hby at_55) ?_
            exact kt
          refine own_arm hgo281 ?_
          exact own_armEnd X173 N188 e173 (by rw [hv48.trans (if_pos hc48_47)])
        · have hgo282 : ∀ t, Steps p.tables e below (T173.setTop (mkF m 56 #[.val (.int p0), .val (.int p1), .val (.int v1), .val (.int v2), .val (.ref b101), .unset] [(.int (1 : Int32))])) t → Steps p.tables e below (T173.setTop (mkF m 48 #[.val (.int p0), .val (.int p1), .val (.int v1), .val (.int v2), .val (.ref b101), .unset] [(.int (((33893 : Int32) >>> (((v1 * (4 : Int32)) + v2) &&& 31)) &&& (1 : Int32)))])) t := by
            intro t kt
            show Steps p.tables e below (T173.setTop (mkF m 48 #[.val (.int p0), .val (.int p1), .val (.int v1), .val (.int v2), .val (.ref b101), .unset] [(.int (((33893 : Int32) >>> (((v1 * (4 : Int32)) + v2) &&& 31)) &&& (1 : Int32)))])) _
            refine XS.ifNo X173.here hx rfl (hb hby at_48) rfl ((if0 _ _).trans (feq hc48_47).1) ?_
            show Steps p.tables e below (T173.setTop (mkF m 51 #[.val (.int p0), .val (.int p1), .val (.int v1), .val (.int v2), .val (.ref b101), .unset] [])) _
            refine XS.iconst X173.here hx rfl (hb hby at_51) ?_
            show Steps p.tables e below (T173.setTop (mkF m 52 #[.val (.int p0), .val (.int p1), .val (.int v1), .val (.int v2), .val (.ref b101), .unset] [(.int (1 : Int32))])) _
            refine XS.goto X173.here hx rfl (pc0 := 52) (pc' := 56) rfl (hb hby at_52) (by decide) (by decide) ?_
            exact kt
          refine own_arm hgo282 ?_
          exact own_armEnd X173 N188 e173 (by rw [hv48.trans (if_neg hc48_47)]))
      have hin61_284 : ¬ v1 < 0 ∧ v1.toNatClampNeg < 4 := by rw [hs38_45]; decide
      have hin65_285 : ¬ v2 < 0 ∧ v2.toNatClampNeg < 4 := by rw [hs40_46]; decide
      obtain ⟨cq286, kq286, q286a, q286b, q286c⟩ := isOf hZ e283 F179
      obtain ⟨_, _, ⟨T286, L286, k286, n286⟩, -, X286, ⟨Lc286, hQ286, l286, y286, z286⟩, st286⟩ := X283.virtualBack hx (y := (⟨"com/example/swapgraph/swapgraph/Network$Shape", "within", "(Lcom/example/swapgraph/swapgraph/Network$Shape;)Z"⟩ : MethodName)) (z := (⟨"com/example/swapgraph/swapgraph/Network$Shape", "within", "(Lcom/example/swapgraph/swapgraph/Network$Shape;)Z"⟩ : MethodName)) hown (mvT hZ (hw _ (List.mem_of_getElem? (i := 13) rfl))) (mvT hZ (hw _ (List.mem_of_getElem? (i := 14) rfl))) (notFace_of_selects (args := #[]) (mvT hZ (hw _ (List.mem_of_getElem? (i := 16) rfl)))) (mvT hZ (hw _ (List.mem_of_getElem? (i := 16) rfl))) (mvT hZ (hw _ (List.mem_of_getElem? (i := 15) rfl))) (by decide) (backOf (W := 0) (rm1 l Z a0 hw [] u_Network_Shape_TREE u_Network_Shape_PATH u_Network_Shape_TREE u_Network_Shape_GENERAL h173 n0 Z186 F178 F180) hZ (hw _ (List.mem_of_getElem? (i := 17) rfl)) (hw _ (List.mem_of_getElem? (i := 3) rfl)) (by decide) (by decide)) q286a q286c (g := (mkF m 66 #[.val (.int p0), .val (.int p1), .val (.int v1), .val (.int v2), .val (.ref b101), .val (.int v48)] [(.ref u_Network_Shape_PATH), (.ref u_Network_Shape_TREE)])) rfl (by rw [hml]; rfl) (Steps.refl _) (argsL := [(.ref u_Network_Shape_PATH)]) (rest := []) (lenOf pd1 rfl) rfl (by show 2 * 0 + _ ≤ _; exact Nat.le_of_eq rfl) (hb hby at_66) (fun _ _ => ⟨rfl, e283, (by decide : 1 + 0 ≤ _), (by decide : 4 + 0 ≤ _)⟩)
      dsimp only [Pt.U, Pt.locs, Pt.cells, Pt.slots] at X286 l286 y286 z286 st286 hQ286
      subst l286 y286 z286
      obtain ⟨rfl, N286q, e286⟩ := hQ286
      have N286 := Fr.app N283 N286q
      obtain ⟨v50, hv50⟩ : ∃ z : Int32, z = (if (own_r1 u_Network_Shape_TREE u_Network_Shape_PATH u_Network_Shape_TREE u_Network_Shape_GENERAL) = v48 then (1 : Int32) else (0 : Int32)) := ⟨_, rfl⟩
      obtain ⟨T289, lc289, X289, N289, e289, st289⟩ := own_mrg (n0 := n0) (h := h173) (g := (mkF m 71 #[.val (.int p0), .val (.int p1), .val (.int v1), .val (.int v2), .val (.ref b101), .val (.int v48)] [(.int v48), (.int (own_r1 u_Network_Shape_TREE u_Network_Shape_PATH u_Network_Shape_TREE u_Network_Shape_GENERAL))])) (g' := (mkF m 79 #[.val (.int p0), .val (.int p1), .val (.int v1), .val (.int v2), .val (.ref b101), .val (.int v48)] [(.int v50)])) X286 (by
        by_cases hc71_49 : (own_r1 u_Network_Shape_TREE u_Network_Shape_PATH u_Network_Shape_TREE u_Network_Shape_GENERAL) = v48
        · have hgo287 : ∀ t, Steps p.tables e below (T286.setTop (mkF m 79 #[.val (.int p0), .val (.int p1), .val (.int v1), .val (.int v2), .val (.ref b101), .val (.int v48)] [(.int (1 : Int32))])) t → Steps p.tables e below (T286.setTop (mkF m 71 #[.val (.int p0), .val (.int p1), .val (.int v1), .val (.int v2), .val (.ref b101), .val (.int v48)] [(.int v48), (.int (own_r1 u_Network_Shape_TREE u_Network_Shape_PATH u_Network_Shape_TREE u_Network_Shape_GENERAL))])) t := by
            intro t kt
            show Steps p.tables e below (T286.setTop (mkF m 71 #[.val (.int p0), .val (.int p1), .val (.int v1), .val (.int v2), .val (.ref b101), .val (.int v48)] [(.int v48), (.int (own_r1 u_Network_Shape_TREE u_Network_Shape_PATH u_Network_Shape_TREE u_Network_Shape_GENERAL))])) _
            refine XS.icmpNo X286.here hx rfl (hb hby at_71) rfl (teq hc71_49).2 ?_
            show Steps p.tables e below (T286.setTop (mkF m 74 #[.val (.int p0), .val (.int p1), .val (.int v1), .val (.int v2), .val (.ref b101), .val (.int v48)] [])) _
            refine XS.iconst X286.here hx rfl (hb hby at_74) ?_
            show Steps p.tables e below (T286.setTop (mkF m 75 #[.val (.int p0), .val (.int p1), .val (.int v1), .val (.int v2), .val (.ref b101), .val (.int v48)] [(.int (1 : Int32))])) _
            refine XS.goto X286.here hx rfl (pc0 := 75) (pc' := 79) rfl (hb hby at_75) (by decide) (by decide) ?_
            exact kt
          refine own_arm hgo287 ?_
          exact own_armEnd X286 N286 e286 (by rw [hv50.trans (if_pos hc71_49)])
        · have hgo288 : ∀ t, Steps p.tables e below (T286.setTop (mkF m 79 #[.val (.int p0), .val (.int p1), .val (.int v1), .val (.int v2), .val (.ref b101), .val (.int v48)] [(.int (0 : Int32))])) t → Steps p.tables e below (T286.setTop (mkF m 71 #[.val (.int p0), .val (.int p1), .val (.int v1), .val (.int v2), .val (.ref b101), .val (.int v48)] [(.int v48), (.int (own_r1 u_Network_Shape_TREE u_Network_Shape_PATH u_Network_Shape_TREE u_Network_Shape_GENERAL))])) t := by
            intro t kt
            show Steps p.tables e below (T286.setTop (mkF m 71 #[.val (.int p0), .val (.int p1), .val (.int v1), .val (.int v2), .val (.ref b101), .val (.int v48)] [(.int v48), (.int (own_r1 u_Network_Shape_TREE u_Network_Shape_PATH u_Network_Shape_TREE u_Network_Shape_GENERAL))])) _
            refine XS.icmpYes X286.here hx rfl (pc0 := 71) (pc' := 78) rfl (hb hby at_71) rfl (feq hc71_49).2 (by decide) (by decide) ?_
            show Steps p.tables e below (T286.setTop (mkF m 78 #[.val (.int p0), .val (.int p1), .val (.int v1), .val (.int v2), .val (.ref b101), .val (.int v48)] [])) _
            refine XS.iconst X286.here hx rfl (hb hby at_78) ?_
            exact kt
          refine own_arm hgo288 ?_
          exact own_armEnd X286 N286 e286 (by rw [hv50.trans (if_neg hc71_49)]))
      have hgo290 : ∀ t, Steps p.tables e below (T289.setTop (mkF m 79 #[.val (.int p0), .val (.int p1), .val (.int v1), .val (.int v2), .val (.ref b101), .val (.int v48)] [(.int v50)])) t → Steps p.tables e below (T173.setTop (mkF m 40 #[.val (.int p0), .val (.int p1), .val (.int v1), .val (.int v2), .val (.ref b101), .unset] [(.int (33893 : Int32))])) t := by
        intro t kt
        show Steps p.tables e below (T173.setTop (mkF m 40 #[.val (.int p0), .val (.int p1), .val (.int v1), .val (.int v2), .val (.ref b101), .unset] [(.int (33893 : Int32))])) _
        refine XS.iloadN X173.here hx rfl (hb hby at_40) rfl ?_
        show Steps p.tables e below (T173.setTop (mkF m 41 #[.val (.int p0), .val (.int p1), .val (.int v1), .val (.int v2), .val (.ref b101), .unset] [(.int v1), (.int (33893 : Int32))])) _
        refine XS.iconst X173.here hx rfl (hb hby at_41) ?_
        show Steps p.tables e below (T173.setTop (mkF m 42 #[.val (.int p0), .val (.int p1), .val (.int v1), .val (.int v2), .val (.ref b101), .unset] [(.int (4 : Int32)), (.int v1), (.int (33893 : Int32))])) _
        refine XS.imul X173.here hx rfl (hb hby at_42) rfl ?_
        show Steps p.tables e below (T173.setTop (mkF m 43 #[.val (.int p0), .val (.int p1), .val (.int v1), .val (.int v2), .val (.ref b101), .unset] [(.int (v1 * (4 : Int32))), (.int (33893 : Int32))])) _
        refine XS.iloadN X173.here hx rfl (hb hby at_43) rfl ?_
        show Steps p.tables e below (T173.setTop (mkF m 44 #[.val (.int p0), .val (.int p1), .val (.int v1), .val (.int v2), .val (.ref b101), .unset] [(.int v2), (.int (v1 * (4 : Int32))), (.int (33893 : Int32))])) _
        refine XS.iadd X173.here hx rfl (hb hby at_44) rfl ?_
        show Steps p.tables e below (T173.setTop (mkF m 45 #[.val (.int p0), .val (.int p1), .val (.int v1), .val (.int v2), .val (.ref b101), .unset] [(.int ((v1 * (4 : Int32)) + v2)), (.int (33893 : Int32))])) _
        refine XS.ishr X173.here hx rfl (hb hby at_45) rfl ?_
        show Steps p.tables e below (T173.setTop (mkF m 46 #[.val (.int p0), .val (.int p1), .val (.int v1), .val (.int v2), .val (.ref b101), .unset] [(.int ((33893 : Int32) >>> (((v1 * (4 : Int32)) + v2) &&& 31)))])) _
        refine XS.iconst X173.here hx rfl (hb hby at_46) ?_
        show Steps p.tables e below (T173.setTop (mkF m 47 #[.val (.int p0), .val (.int p1), .val (.int v1), .val (.int v2), .val (.ref b101), .unset] [(.int (1 : Int32)), (.int ((33893 : Int32) >>> (((v1 * (4 : Int32)) + v2) &&& 31)))])) _
        refine XS.iand X173.here hx rfl (hb hby at_47) rfl ?_
        show Steps p.tables e below (T173.setTop (mkF m 48 #[.val (.int p0), .val (.int p1), .val (.int v1), .val (.int v2), .val (.ref b101), .unset] [(.int (((33893 : Int32) >>> (((v1 * (4 : Int32)) + v2) &&& 31)) &&& (1 : Int32)))])) _
        refine st283 _ ?_
        show Steps p.tables e below (T283.setTop (mkF m 56 #[.val (.int p0), .val (.int p1), .val (.int v1), .val (.int v2), .val (.ref b101), .unset] [(.int v48)])) _
        refine XS.istore X283.here hx rfl (hb hby at_56) rfl (l' := #[.val (.int p0), .val (.int p1), .val (.int v1), .val (.int v2), .val (.ref b101), .val (.int v48)]) rfl ?_
        show Steps p.tables e below (T283.setTop (mkF m 58 #[.val (.int p0), .val (.int p1), .val (.int v1), .val (.int v2), .val (.ref b101), .val (.int v48)] [])) _
        refine XS.aload X283.here hx rfl (hb hby at_58) rfl rfl ?_
        show Steps p.tables e below (T283.setTop (mkF m 60 #[.val (.int p0), .val (.int p1), .val (.int v1), .val (.int v2), .val (.ref b101), .val (.int v48)] [(.ref b101)])) _
        refine XS.iloadN X283.here hx rfl (hb hby at_60) rfl ?_
        show Steps p.tables e below (T283.setTop (mkF m 61 #[.val (.int p0), .val (.int p1), .val (.int v1), .val (.int v2), .val (.ref b101), .val (.int v48)] [(.int v1), (.ref b101)])) _
        refine own_ldR X283 hx hZ e283 B173n (j := v1) (v := (.ref u_Network_Shape_TREE)) hin61_284 (by rw [hs38_45]; rfl) (g := (mkF m 61 #[.val (.int p0), .val (.int p1), .val (.int v1), .val (.int v2), .val (.ref b101), .val (.int v48)] [(.int v1), (.ref b101)])) rfl rfl (hb hby at_61) _ ?_
        show Steps p.tables e below (T283.setTop (mkF m 62 #[.val (.int p0), .val (.int p1), .val (.int v1), .val (.int v2), .val (.ref b101), .val (.int v48)] [(.ref u_Network_Shape_TREE)])) _
        refine XS.aload X283.here hx rfl (hb hby at_62) rfl rfl ?_
        show Steps p.tables e below (T283.setTop (mkF m 64 #[.val (.int p0), .val (.int p1), .val (.int v1), .val (.int v2), .val (.ref b101), .val (.int v48)] [(.ref b101), (.ref u_Network_Shape_TREE)])) _
        refine XS.iloadN X283.here hx rfl (hb hby at_64) rfl ?_
        show Steps p.tables e below (T283.setTop (mkF m 65 #[.val (.int p0), .val (.int p1), .val (.int v1), .val (.int v2), .val (.ref b101), .val (.int v48)] [(.int v2), (.ref b101), (.ref u_Network_Shape_TREE)])) _
        refine own_ldR X283 hx hZ e283 B173n (j := v2) (v := (.ref u_Network_Shape_PATH)) hin65_285 (by rw [hs40_46]; rfl) (g := (mkF m 65 #[.val (.int p0), .val (.int p1), .val (.int v1), .val (.int v2), .val (.ref b101), .val (.int v48)] [(.int v2), (.ref b101), (.ref u_Network_Shape_TREE)])) rfl rfl (hb hby at_65) _ ?_
        show Steps p.tables e below (T283.setTop (mkF m 66 #[.val (.int p0), .val (.int p1), .val (.int v1), .val (.int v2), .val (.ref b101), .val (.int v48)] [(.ref u_Network_Shape_PATH), (.ref u_Network_Shape_TREE)])) _
        refine st286.trans ?_
        show Steps p.tables e below (T286.setTop (mkF m 69 #[.val (.int p0), .val (.int p1), .val (.int v1), .val (.int v2), .val (.ref b101), .val (.int v48)] [(.int (own_r1 u_Network_Shape_TREE u_Network_Shape_PATH u_Network_Shape_TREE u_Network_Shape_GENERAL))])) _
        refine XS.iload X286.here hx rfl (hb hby at_69) rfl ?_
        show Steps p.tables e below (T286.setTop (mkF m 71 #[.val (.int p0), .val (.int p1), .val (.int v1), .val (.int v2), .val (.ref b101), .val (.int v48)] [(.int v48), (.int (own_r1 u_Network_Shape_TREE u_Network_Shape_PATH u_Network_Shape_TREE u_Network_Shape_GENERAL))])) _
        refine st289 _ ?_
        exact kt
      refine own_go hgo290 ?_
      have hz291 : v50 = 1 := own_leaf8 (p0 := p0) (p1 := p1) (u_Network_Shape_PATH := u_Network_Shape_PATH) (u_Network_Shape_STAR := u_Network_Shape_STAR) (u_Network_Shape_TREE := u_Network_Shape_TREE) (u_Network_Shape_GENERAL := u_Network_Shape_GENERAL) hv1 hv2 hv48 hv50 hs38_3 hs38_24 hs38_45 hs40_46 hne01 hne02 hne03 hne10 hne12 hne13 hne20 hne21 hne23 hne30 hne31 hne32
      exact own_retZ X289 hx Bd.returns Bd.notSynchronized (hb hby at_79) (by decide) (by decide) (Or.inr hz291) ⟨by rw [hz291], N289⟩
    by_cases hs40_51 : v2 = (1 : Int32)
    · obtain ⟨v53, hv53⟩ : ∃ z : Int32, z = (if (((33893 : Int32) >>> (((v1 * (4 : Int32)) + v2) &&& 31)) &&& (1 : Int32)) = (0 : Int32) then (0 : Int32) else (1 : Int32)) := ⟨_, rfl⟩
      obtain ⟨T294, lc294, X294, N294, e294, st294⟩ := own_mrg (n0 := n0) (h := h173) (g := (mkF m 48 #[.val (.int p0), .val (.int p1), .val (.int v1), .val (.int v2), .val (.ref b101), .unset] [(.int (((33893 : Int32) >>> (((v1 * (4 : Int32)) + v2) &&& 31)) &&& (1 : Int32)))])) (g' := (mkF m 56 #[.val (.int p0), .val (.int p1), .val (.int v1), .val (.int v2), .val (.ref b101), .unset] [(.int v53)])) X173 (by
        by_cases hc48_52 : (((33893 : Int32) >>> (((v1 * (4 : Int32)) + v2) &&& 31)) &&& (1 : Int32)) = (0 : Int32)
        · have hgo292 : ∀ t, Steps p.tables e below (T173.setTop (mkF m 56 #[.val (.int p0), .val (.int p1), .val (.int v1), .val (.int v2), .val (.ref b101), .unset] [(.int (0 : Int32))])) t → Steps p.tables e below (T173.setTop (mkF m 48 #[.val (.int p0), .val (.int p1), .val (.int v1), .val (.int v2), .val (.ref b101), .unset] [(.int (((33893 : Int32) >>> (((v1 * (4 : Int32)) + v2) &&& 31)) &&& (1 : Int32)))])) t := by
            intro t kt
            show Steps p.tables e below (T173.setTop (mkF m 48 #[.val (.int p0), .val (.int p1), .val (.int v1), .val (.int v2), .val (.ref b101), .unset] [(.int (((33893 : Int32) >>> (((v1 * (4 : Int32)) + v2) &&& 31)) &&& (1 : Int32)))])) _
            refine XS.ifYes X173.here hx rfl (pc0 := 48) (pc' := 55) rfl (hb hby at_48) rfl ((if0 _ _).trans (teq hc48_52).1) (by decide) (by decide) ?_
            show Steps p.tables e below (T173.setTop (mkF m 55 #[.val (.int p0), .val (.int p1), .val (.int v1), .val (.int v2), .val (.ref b101), .unset] [])) _
            refine XS.iconst X173.here hx rfl (hb hby at_55) ?_
            exact kt
          refine own_arm hgo292 ?_
          exact own_armEnd X173 N188 e173 (by rw [hv53.trans (if_pos hc48_52)])
        · have hgo293 : ∀ t, Steps p.tables e below (T173.setTop (mkF m 56 #[.val (.int p0), .val (.int p1), .val (.int v1), .val (.int v2), .val (.ref b101), .unset] [(.int (1 : Int32))])) t → Steps p.tables e below (T173.setTop (mkF m 48 #[.val (.int p0), .val (.int p1), .val (.int v1), .val (.int v2), .val (.ref b101), .unset] [(.int (((33893 : Int32) >>> (((v1 * (4 : Int32)) + v2) &&& 31)) &&& (1 : Int32)))])) t := by
            intro t kt
            show Steps p.tables e below (T173.setTop (mkF m 48 #[.val (.int p0), .val (.int p1), .val (.int v1), .val (.int v2), .val (.ref b101), .unset] [(.int (((33893 : Int32) >>> (((v1 * (4 : Int32)) + v2) &&& 31)) &&& (1 : Int32)))])) _
            refine XS.ifNo X173.here hx rfl (hb hby at_48) rfl ((if0 _ _).trans (feq hc48_52).1) ?_
            show Steps p.tables e below (T173.setTop (mkF m 51 #[.val (.int p0), .val (.int p1), .val (.int v1), .val (.int v2), .val (.ref b101), .unset] [])) _
            refine XS.iconst X173.here hx rfl (hb hby at_51) ?_
            show Steps p.tables e below (T173.setTop (mkF m 52 #[.val (.int p0), .val (.int p1), .val (.int v1), .val (.int v2), .val (.ref b101), .unset] [(.int (1 : Int32))])) _
            refine XS.goto X173.here hx rfl (pc0 := 52) (pc' := 56) rfl (hb hby at_52) (by decide) (by decide) ?_
            exact kt
          refine own_arm hgo293 ?_
          exact own_armEnd X173 N188 e173 (by rw [hv53.trans (if_neg hc48_52)]))
      have hin61_295 : ¬ v1 < 0 ∧ v1.toNatClampNeg < 4 := by rw [hs38_45]; decide
      have hin65_296 : ¬ v2 < 0 ∧ v2.toNatClampNeg < 4 := by rw [hs40_51]; decide
      obtain ⟨cq297, kq297, q297a, q297b, q297c⟩ := isOf hZ e294 F179
      obtain ⟨_, _, ⟨T297, L297, k297, n297⟩, -, X297, ⟨Lc297, hQ297, l297, y297, z297⟩, st297⟩ := X294.virtualBack hx (y := (⟨"com/example/swapgraph/swapgraph/Network$Shape", "within", "(Lcom/example/swapgraph/swapgraph/Network$Shape;)Z"⟩ : MethodName)) (z := (⟨"com/example/swapgraph/swapgraph/Network$Shape", "within", "(Lcom/example/swapgraph/swapgraph/Network$Shape;)Z"⟩ : MethodName)) hown (mvT hZ (hw _ (List.mem_of_getElem? (i := 13) rfl))) (mvT hZ (hw _ (List.mem_of_getElem? (i := 14) rfl))) (notFace_of_selects (args := #[]) (mvT hZ (hw _ (List.mem_of_getElem? (i := 16) rfl)))) (mvT hZ (hw _ (List.mem_of_getElem? (i := 16) rfl))) (mvT hZ (hw _ (List.mem_of_getElem? (i := 15) rfl))) (by decide) (backOf (W := 0) (rm1 l Z a0 hw [] u_Network_Shape_TREE u_Network_Shape_STAR u_Network_Shape_TREE u_Network_Shape_GENERAL h173 n0 Z186 F178 F180) hZ (hw _ (List.mem_of_getElem? (i := 17) rfl)) (hw _ (List.mem_of_getElem? (i := 3) rfl)) (by decide) (by decide)) q297a q297c (g := (mkF m 66 #[.val (.int p0), .val (.int p1), .val (.int v1), .val (.int v2), .val (.ref b101), .val (.int v53)] [(.ref u_Network_Shape_STAR), (.ref u_Network_Shape_TREE)])) rfl (by rw [hml]; rfl) (Steps.refl _) (argsL := [(.ref u_Network_Shape_STAR)]) (rest := []) (lenOf pd1 rfl) rfl (by show 2 * 0 + _ ≤ _; exact Nat.le_of_eq rfl) (hb hby at_66) (fun _ _ => ⟨rfl, e294, (by decide : 1 + 0 ≤ _), (by decide : 4 + 0 ≤ _)⟩)
      dsimp only [Pt.U, Pt.locs, Pt.cells, Pt.slots] at X297 l297 y297 z297 st297 hQ297
      subst l297 y297 z297
      obtain ⟨rfl, N297q, e297⟩ := hQ297
      have N297 := Fr.app N294 N297q
      obtain ⟨v55, hv55⟩ : ∃ z : Int32, z = (if (own_r1 u_Network_Shape_TREE u_Network_Shape_STAR u_Network_Shape_TREE u_Network_Shape_GENERAL) = v53 then (1 : Int32) else (0 : Int32)) := ⟨_, rfl⟩
      obtain ⟨T300, lc300, X300, N300, e300, st300⟩ := own_mrg (n0 := n0) (h := h173) (g := (mkF m 71 #[.val (.int p0), .val (.int p1), .val (.int v1), .val (.int v2), .val (.ref b101), .val (.int v53)] [(.int v53), (.int (own_r1 u_Network_Shape_TREE u_Network_Shape_STAR u_Network_Shape_TREE u_Network_Shape_GENERAL))])) (g' := (mkF m 79 #[.val (.int p0), .val (.int p1), .val (.int v1), .val (.int v2), .val (.ref b101), .val (.int v53)] [(.int v55)])) X297 (by
        by_cases hc71_54 : (own_r1 u_Network_Shape_TREE u_Network_Shape_STAR u_Network_Shape_TREE u_Network_Shape_GENERAL) = v53
        · have hgo298 : ∀ t, Steps p.tables e below (T297.setTop (mkF m 79 #[.val (.int p0), .val (.int p1), .val (.int v1), .val (.int v2), .val (.ref b101), .val (.int v53)] [(.int (1 : Int32))])) t → Steps p.tables e below (T297.setTop (mkF m 71 #[.val (.int p0), .val (.int p1), .val (.int v1), .val (.int v2), .val (.ref b101), .val (.int v53)] [(.int v53), (.int (own_r1 u_Network_Shape_TREE u_Network_Shape_STAR u_Network_Shape_TREE u_Network_Shape_GENERAL))])) t := by
            intro t kt
            show Steps p.tables e below (T297.setTop (mkF m 71 #[.val (.int p0), .val (.int p1), .val (.int v1), .val (.int v2), .val (.ref b101), .val (.int v53)] [(.int v53), (.int (own_r1 u_Network_Shape_TREE u_Network_Shape_STAR u_Network_Shape_TREE u_Network_Shape_GENERAL))])) _
            refine XS.icmpNo X297.here hx rfl (hb hby at_71) rfl (teq hc71_54).2 ?_
            show Steps p.tables e below (T297.setTop (mkF m 74 #[.val (.int p0), .val (.int p1), .val (.int v1), .val (.int v2), .val (.ref b101), .val (.int v53)] [])) _
            refine XS.iconst X297.here hx rfl (hb hby at_74) ?_
            show Steps p.tables e below (T297.setTop (mkF m 75 #[.val (.int p0), .val (.int p1), .val (.int v1), .val (.int v2), .val (.ref b101), .val (.int v53)] [(.int (1 : Int32))])) _
            refine XS.goto X297.here hx rfl (pc0 := 75) (pc' := 79) rfl (hb hby at_75) (by decide) (by decide) ?_
            exact kt
          refine own_arm hgo298 ?_
          exact own_armEnd X297 N297 e297 (by rw [hv55.trans (if_pos hc71_54)])
        · have hgo299 : ∀ t, Steps p.tables e below (T297.setTop (mkF m 79 #[.val (.int p0), .val (.int p1), .val (.int v1), .val (.int v2), .val (.ref b101), .val (.int v53)] [(.int (0 : Int32))])) t → Steps p.tables e below (T297.setTop (mkF m 71 #[.val (.int p0), .val (.int p1), .val (.int v1), .val (.int v2), .val (.ref b101), .val (.int v53)] [(.int v53), (.int (own_r1 u_Network_Shape_TREE u_Network_Shape_STAR u_Network_Shape_TREE u_Network_Shape_GENERAL))])) t := by
            intro t kt
            show Steps p.tables e below (T297.setTop (mkF m 71 #[.val (.int p0), .val (.int p1), .val (.int v1), .val (.int v2), .val (.ref b101), .val (.int v53)] [(.int v53), (.int (own_r1 u_Network_Shape_TREE u_Network_Shape_STAR u_Network_Shape_TREE u_Network_Shape_GENERAL))])) _
            refine XS.icmpYes X297.here hx rfl (pc0 := 71) (pc' := 78) rfl (hb hby at_71) rfl (feq hc71_54).2 (by decide) (by decide) ?_
            show Steps p.tables e below (T297.setTop (mkF m 78 #[.val (.int p0), .val (.int p1), .val (.int v1), .val (.int v2), .val (.ref b101), .val (.int v53)] [])) _
            refine XS.iconst X297.here hx rfl (hb hby at_78) ?_
            exact kt
          refine own_arm hgo299 ?_
          exact own_armEnd X297 N297 e297 (by rw [hv55.trans (if_neg hc71_54)]))
      have hgo301 : ∀ t, Steps p.tables e below (T300.setTop (mkF m 79 #[.val (.int p0), .val (.int p1), .val (.int v1), .val (.int v2), .val (.ref b101), .val (.int v53)] [(.int v55)])) t → Steps p.tables e below (T173.setTop (mkF m 40 #[.val (.int p0), .val (.int p1), .val (.int v1), .val (.int v2), .val (.ref b101), .unset] [(.int (33893 : Int32))])) t := by
        intro t kt
        show Steps p.tables e below (T173.setTop (mkF m 40 #[.val (.int p0), .val (.int p1), .val (.int v1), .val (.int v2), .val (.ref b101), .unset] [(.int (33893 : Int32))])) _
        refine XS.iloadN X173.here hx rfl (hb hby at_40) rfl ?_
        show Steps p.tables e below (T173.setTop (mkF m 41 #[.val (.int p0), .val (.int p1), .val (.int v1), .val (.int v2), .val (.ref b101), .unset] [(.int v1), (.int (33893 : Int32))])) _
        refine XS.iconst X173.here hx rfl (hb hby at_41) ?_
        show Steps p.tables e below (T173.setTop (mkF m 42 #[.val (.int p0), .val (.int p1), .val (.int v1), .val (.int v2), .val (.ref b101), .unset] [(.int (4 : Int32)), (.int v1), (.int (33893 : Int32))])) _
        refine XS.imul X173.here hx rfl (hb hby at_42) rfl ?_
        show Steps p.tables e below (T173.setTop (mkF m 43 #[.val (.int p0), .val (.int p1), .val (.int v1), .val (.int v2), .val (.ref b101), .unset] [(.int (v1 * (4 : Int32))), (.int (33893 : Int32))])) _
        refine XS.iloadN X173.here hx rfl (hb hby at_43) rfl ?_
        show Steps p.tables e below (T173.setTop (mkF m 44 #[.val (.int p0), .val (.int p1), .val (.int v1), .val (.int v2), .val (.ref b101), .unset] [(.int v2), (.int (v1 * (4 : Int32))), (.int (33893 : Int32))])) _
        refine XS.iadd X173.here hx rfl (hb hby at_44) rfl ?_
        show Steps p.tables e below (T173.setTop (mkF m 45 #[.val (.int p0), .val (.int p1), .val (.int v1), .val (.int v2), .val (.ref b101), .unset] [(.int ((v1 * (4 : Int32)) + v2)), (.int (33893 : Int32))])) _
        refine XS.ishr X173.here hx rfl (hb hby at_45) rfl ?_
        show Steps p.tables e below (T173.setTop (mkF m 46 #[.val (.int p0), .val (.int p1), .val (.int v1), .val (.int v2), .val (.ref b101), .unset] [(.int ((33893 : Int32) >>> (((v1 * (4 : Int32)) + v2) &&& 31)))])) _
        refine XS.iconst X173.here hx rfl (hb hby at_46) ?_
        show Steps p.tables e below (T173.setTop (mkF m 47 #[.val (.int p0), .val (.int p1), .val (.int v1), .val (.int v2), .val (.ref b101), .unset] [(.int (1 : Int32)), (.int ((33893 : Int32) >>> (((v1 * (4 : Int32)) + v2) &&& 31)))])) _
        refine XS.iand X173.here hx rfl (hb hby at_47) rfl ?_
        show Steps p.tables e below (T173.setTop (mkF m 48 #[.val (.int p0), .val (.int p1), .val (.int v1), .val (.int v2), .val (.ref b101), .unset] [(.int (((33893 : Int32) >>> (((v1 * (4 : Int32)) + v2) &&& 31)) &&& (1 : Int32)))])) _
        refine st294 _ ?_
        show Steps p.tables e below (T294.setTop (mkF m 56 #[.val (.int p0), .val (.int p1), .val (.int v1), .val (.int v2), .val (.ref b101), .unset] [(.int v53)])) _
        refine XS.istore X294.here hx rfl (hb hby at_56) rfl (l' := #[.val (.int p0), .val (.int p1), .val (.int v1), .val (.int v2), .val (.ref b101), .val (.int v53)]) rfl ?_
        show Steps p.tables e below (T294.setTop (mkF m 58 #[.val (.int p0), .val (.int p1), .val (.int v1), .val (.int v2), .val (.ref b101), .val (.int v53)] [])) _
        refine XS.aload X294.here hx rfl (hb hby at_58) rfl rfl ?_
        show Steps p.tables e below (T294.setTop (mkF m 60 #[.val (.int p0), .val (.int p1), .val (.int v1), .val (.int v2), .val (.ref b101), .val (.int v53)] [(.ref b101)])) _
        refine XS.iloadN X294.here hx rfl (hb hby at_60) rfl ?_
        show Steps p.tables e below (T294.setTop (mkF m 61 #[.val (.int p0), .val (.int p1), .val (.int v1), .val (.int v2), .val (.ref b101), .val (.int v53)] [(.int v1), (.ref b101)])) _
        refine own_ldR X294 hx hZ e294 B173n (j := v1) (v := (.ref u_Network_Shape_TREE)) hin61_295 (by rw [hs38_45]; rfl) (g := (mkF m 61 #[.val (.int p0), .val (.int p1), .val (.int v1), .val (.int v2), .val (.ref b101), .val (.int v53)] [(.int v1), (.ref b101)])) rfl rfl (hb hby at_61) _ ?_
        show Steps p.tables e below (T294.setTop (mkF m 62 #[.val (.int p0), .val (.int p1), .val (.int v1), .val (.int v2), .val (.ref b101), .val (.int v53)] [(.ref u_Network_Shape_TREE)])) _
        refine XS.aload X294.here hx rfl (hb hby at_62) rfl rfl ?_
        show Steps p.tables e below (T294.setTop (mkF m 64 #[.val (.int p0), .val (.int p1), .val (.int v1), .val (.int v2), .val (.ref b101), .val (.int v53)] [(.ref b101), (.ref u_Network_Shape_TREE)])) _
        refine XS.iloadN X294.here hx rfl (hb hby at_64) rfl ?_
        show Steps p.tables e below (T294.setTop (mkF m 65 #[.val (.int p0), .val (.int p1), .val (.int v1), .val (.int v2), .val (.ref b101), .val (.int v53)] [(.int v2), (.ref b101), (.ref u_Network_Shape_TREE)])) _
        refine own_ldR X294 hx hZ e294 B173n (j := v2) (v := (.ref u_Network_Shape_STAR)) hin65_296 (by rw [hs40_51]; rfl) (g := (mkF m 65 #[.val (.int p0), .val (.int p1), .val (.int v1), .val (.int v2), .val (.ref b101), .val (.int v53)] [(.int v2), (.ref b101), (.ref u_Network_Shape_TREE)])) rfl rfl (hb hby at_65) _ ?_
        show Steps p.tables e below (T294.setTop (mkF m 66 #[.val (.int p0), .val (.int p1), .val (.int v1), .val (.int v2), .val (.ref b101), .val (.int v53)] [(.ref u_Network_Shape_STAR), (.ref u_Network_Shape_TREE)])) _
        refine st297.trans ?_
        show Steps p.tables e below (T297.setTop (mkF m 69 #[.val (.int p0), .val (.int p1), .val (.int v1), .val (.int v2), .val (.ref b101), .val (.int v53)] [(.int (own_r1 u_Network_Shape_TREE u_Network_Shape_STAR u_Network_Shape_TREE u_Network_Shape_GENERAL))])) _
        refine XS.iload X297.here hx rfl (hb hby at_69) rfl ?_
        show Steps p.tables e below (T297.setTop (mkF m 71 #[.val (.int p0), .val (.int p1), .val (.int v1), .val (.int v2), .val (.ref b101), .val (.int v53)] [(.int v53), (.int (own_r1 u_Network_Shape_TREE u_Network_Shape_STAR u_Network_Shape_TREE u_Network_Shape_GENERAL))])) _
        refine st300 _ ?_
        exact kt
      refine own_go hgo301 ?_
      have hz302 : v55 = 1 := own_leaf9 (p0 := p0) (p1 := p1) (u_Network_Shape_PATH := u_Network_Shape_PATH) (u_Network_Shape_STAR := u_Network_Shape_STAR) (u_Network_Shape_TREE := u_Network_Shape_TREE) (u_Network_Shape_GENERAL := u_Network_Shape_GENERAL) hv1 hv2 hv53 hv55 hs38_3 hs38_24 hs38_45 hs40_46 hs40_51 hne01 hne02 hne03 hne10 hne12 hne13 hne20 hne21 hne23 hne30 hne31 hne32
      exact own_retZ X300 hx Bd.returns Bd.notSynchronized (hb hby at_79) (by decide) (by decide) (Or.inr hz302) ⟨by rw [hz302], N300⟩
    by_cases hs40_56 : v2 = (2 : Int32)
    · obtain ⟨v58, hv58⟩ : ∃ z : Int32, z = (if (((33893 : Int32) >>> (((v1 * (4 : Int32)) + v2) &&& 31)) &&& (1 : Int32)) = (0 : Int32) then (0 : Int32) else (1 : Int32)) := ⟨_, rfl⟩
      obtain ⟨T305, lc305, X305, N305, e305, st305⟩ := own_mrg (n0 := n0) (h := h173) (g := (mkF m 48 #[.val (.int p0), .val (.int p1), .val (.int v1), .val (.int v2), .val (.ref b101), .unset] [(.int (((33893 : Int32) >>> (((v1 * (4 : Int32)) + v2) &&& 31)) &&& (1 : Int32)))])) (g' := (mkF m 56 #[.val (.int p0), .val (.int p1), .val (.int v1), .val (.int v2), .val (.ref b101), .unset] [(.int v58)])) X173 (by
        by_cases hc48_57 : (((33893 : Int32) >>> (((v1 * (4 : Int32)) + v2) &&& 31)) &&& (1 : Int32)) = (0 : Int32)
        · have hgo303 : ∀ t, Steps p.tables e below (T173.setTop (mkF m 56 #[.val (.int p0), .val (.int p1), .val (.int v1), .val (.int v2), .val (.ref b101), .unset] [(.int (0 : Int32))])) t → Steps p.tables e below (T173.setTop (mkF m 48 #[.val (.int p0), .val (.int p1), .val (.int v1), .val (.int v2), .val (.ref b101), .unset] [(.int (((33893 : Int32) >>> (((v1 * (4 : Int32)) + v2) &&& 31)) &&& (1 : Int32)))])) t := by
            intro t kt
            show Steps p.tables e below (T173.setTop (mkF m 48 #[.val (.int p0), .val (.int p1), .val (.int v1), .val (.int v2), .val (.ref b101), .unset] [(.int (((33893 : Int32) >>> (((v1 * (4 : Int32)) + v2) &&& 31)) &&& (1 : Int32)))])) _
            refine XS.ifYes X173.here hx rfl (pc0 := 48) (pc' := 55) rfl (hb hby at_48) rfl ((if0 _ _).trans (teq hc48_57).1) (by decide) (by decide) ?_
            show Steps p.tables e below (T173.setTop (mkF m 55 #[.val (.int p0), .val (.int p1), .val (.int v1), .val (.int v2), .val (.ref b101), .unset] [])) _
            refine XS.iconst X173.here hx rfl (hb hby at_55) ?_
            exact kt
          refine own_arm hgo303 ?_
          exact own_armEnd X173 N188 e173 (by rw [hv58.trans (if_pos hc48_57)])
        · have hgo304 : ∀ t, Steps p.tables e below (T173.setTop (mkF m 56 #[.val (.int p0), .val (.int p1), .val (.int v1), .val (.int v2), .val (.ref b101), .unset] [(.int (1 : Int32))])) t → Steps p.tables e below (T173.setTop (mkF m 48 #[.val (.int p0), .val (.int p1), .val (.int v1), .val (.int v2), .val (.ref b101), .unset] [(.int (((33893 : Int32) >>> (((v1 * (4 : Int32)) + v2) &&& 31)) &&& (1 : Int32)))])) t := by
            intro t kt
            show Steps p.tables e below (T173.setTop (mkF m 48 #[.val (.int p0), .val (.int p1), .val (.int v1), .val (.int v2), .val (.ref b101), .unset] [(.int (((33893 : Int32) >>> (((v1 * (4 : Int32)) + v2) &&& 31)) &&& (1 : Int32)))])) _
            refine XS.ifNo X173.here hx rfl (hb hby at_48) rfl ((if0 _ _).trans (feq hc48_57).1) ?_
            show Steps p.tables e below (T173.setTop (mkF m 51 #[.val (.int p0), .val (.int p1), .val (.int v1), .val (.int v2), .val (.ref b101), .unset] [])) _
            refine XS.iconst X173.here hx rfl (hb hby at_51) ?_
            show Steps p.tables e below (T173.setTop (mkF m 52 #[.val (.int p0), .val (.int p1), .val (.int v1), .val (.int v2), .val (.ref b101), .unset] [(.int (1 : Int32))])) _
            refine XS.goto X173.here hx rfl (pc0 := 52) (pc' := 56) rfl (hb hby at_52) (by decide) (by decide) ?_
            exact kt
          refine own_arm hgo304 ?_
          exact own_armEnd X173 N188 e173 (by rw [hv58.trans (if_neg hc48_57)]))
      have hin61_306 : ¬ v1 < 0 ∧ v1.toNatClampNeg < 4 := by rw [hs38_45]; decide
      have hin65_307 : ¬ v2 < 0 ∧ v2.toNatClampNeg < 4 := by rw [hs40_56]; decide
      obtain ⟨cq308, kq308, q308a, q308b, q308c⟩ := isOf hZ e305 F179
      obtain ⟨_, _, ⟨T308, L308, k308, n308⟩, -, X308, ⟨Lc308, hQ308, l308, y308, z308⟩, st308⟩ := X305.virtualBack hx (y := (⟨"com/example/swapgraph/swapgraph/Network$Shape", "within", "(Lcom/example/swapgraph/swapgraph/Network$Shape;)Z"⟩ : MethodName)) (z := (⟨"com/example/swapgraph/swapgraph/Network$Shape", "within", "(Lcom/example/swapgraph/swapgraph/Network$Shape;)Z"⟩ : MethodName)) hown (mvT hZ (hw _ (List.mem_of_getElem? (i := 13) rfl))) (mvT hZ (hw _ (List.mem_of_getElem? (i := 14) rfl))) (notFace_of_selects (args := #[]) (mvT hZ (hw _ (List.mem_of_getElem? (i := 16) rfl)))) (mvT hZ (hw _ (List.mem_of_getElem? (i := 16) rfl))) (mvT hZ (hw _ (List.mem_of_getElem? (i := 15) rfl))) (by decide) (backOf (W := 0) (rm1 l Z a0 hw [] u_Network_Shape_TREE u_Network_Shape_TREE u_Network_Shape_TREE u_Network_Shape_GENERAL h173 n0 Z186 F178 F180) hZ (hw _ (List.mem_of_getElem? (i := 17) rfl)) (hw _ (List.mem_of_getElem? (i := 3) rfl)) (by decide) (by decide)) q308a q308c (g := (mkF m 66 #[.val (.int p0), .val (.int p1), .val (.int v1), .val (.int v2), .val (.ref b101), .val (.int v58)] [(.ref u_Network_Shape_TREE), (.ref u_Network_Shape_TREE)])) rfl (by rw [hml]; rfl) (Steps.refl _) (argsL := [(.ref u_Network_Shape_TREE)]) (rest := []) (lenOf pd1 rfl) rfl (by show 2 * 0 + _ ≤ _; exact Nat.le_of_eq rfl) (hb hby at_66) (fun _ _ => ⟨rfl, e305, (by decide : 1 + 0 ≤ _), (by decide : 4 + 0 ≤ _)⟩)
      dsimp only [Pt.U, Pt.locs, Pt.cells, Pt.slots] at X308 l308 y308 z308 st308 hQ308
      subst l308 y308 z308
      obtain ⟨rfl, N308q, e308⟩ := hQ308
      have N308 := Fr.app N305 N308q
      obtain ⟨v60, hv60⟩ : ∃ z : Int32, z = (if (own_r1 u_Network_Shape_TREE u_Network_Shape_TREE u_Network_Shape_TREE u_Network_Shape_GENERAL) = v58 then (1 : Int32) else (0 : Int32)) := ⟨_, rfl⟩
      obtain ⟨T311, lc311, X311, N311, e311, st311⟩ := own_mrg (n0 := n0) (h := h173) (g := (mkF m 71 #[.val (.int p0), .val (.int p1), .val (.int v1), .val (.int v2), .val (.ref b101), .val (.int v58)] [(.int v58), (.int (own_r1 u_Network_Shape_TREE u_Network_Shape_TREE u_Network_Shape_TREE u_Network_Shape_GENERAL))])) (g' := (mkF m 79 #[.val (.int p0), .val (.int p1), .val (.int v1), .val (.int v2), .val (.ref b101), .val (.int v58)] [(.int v60)])) X308 (by
        by_cases hc71_59 : (own_r1 u_Network_Shape_TREE u_Network_Shape_TREE u_Network_Shape_TREE u_Network_Shape_GENERAL) = v58
        · have hgo309 : ∀ t, Steps p.tables e below (T308.setTop (mkF m 79 #[.val (.int p0), .val (.int p1), .val (.int v1), .val (.int v2), .val (.ref b101), .val (.int v58)] [(.int (1 : Int32))])) t → Steps p.tables e below (T308.setTop (mkF m 71 #[.val (.int p0), .val (.int p1), .val (.int v1), .val (.int v2), .val (.ref b101), .val (.int v58)] [(.int v58), (.int (own_r1 u_Network_Shape_TREE u_Network_Shape_TREE u_Network_Shape_TREE u_Network_Shape_GENERAL))])) t := by
            intro t kt
            show Steps p.tables e below (T308.setTop (mkF m 71 #[.val (.int p0), .val (.int p1), .val (.int v1), .val (.int v2), .val (.ref b101), .val (.int v58)] [(.int v58), (.int (own_r1 u_Network_Shape_TREE u_Network_Shape_TREE u_Network_Shape_TREE u_Network_Shape_GENERAL))])) _
            refine XS.icmpNo X308.here hx rfl (hb hby at_71) rfl (teq hc71_59).2 ?_
            show Steps p.tables e below (T308.setTop (mkF m 74 #[.val (.int p0), .val (.int p1), .val (.int v1), .val (.int v2), .val (.ref b101), .val (.int v58)] [])) _
            refine XS.iconst X308.here hx rfl (hb hby at_74) ?_
            show Steps p.tables e below (T308.setTop (mkF m 75 #[.val (.int p0), .val (.int p1), .val (.int v1), .val (.int v2), .val (.ref b101), .val (.int v58)] [(.int (1 : Int32))])) _
            refine XS.goto X308.here hx rfl (pc0 := 75) (pc' := 79) rfl (hb hby at_75) (by decide) (by decide) ?_
            exact kt
          refine own_arm hgo309 ?_
          exact own_armEnd X308 N308 e308 (by rw [hv60.trans (if_pos hc71_59)])
        · have hgo310 : ∀ t, Steps p.tables e below (T308.setTop (mkF m 79 #[.val (.int p0), .val (.int p1), .val (.int v1), .val (.int v2), .val (.ref b101), .val (.int v58)] [(.int (0 : Int32))])) t → Steps p.tables e below (T308.setTop (mkF m 71 #[.val (.int p0), .val (.int p1), .val (.int v1), .val (.int v2), .val (.ref b101), .val (.int v58)] [(.int v58), (.int (own_r1 u_Network_Shape_TREE u_Network_Shape_TREE u_Network_Shape_TREE u_Network_Shape_GENERAL))])) t := by
            intro t kt
            show Steps p.tables e below (T308.setTop (mkF m 71 #[.val (.int p0), .val (.int p1), .val (.int v1), .val (.int v2), .val (.ref b101), .val (.int v58)] [(.int v58), (.int (own_r1 u_Network_Shape_TREE u_Network_Shape_TREE u_Network_Shape_TREE u_Network_Shape_GENERAL))])) _
            refine XS.icmpYes X308.here hx rfl (pc0 := 71) (pc' := 78) rfl (hb hby at_71) rfl (feq hc71_59).2 (by decide) (by decide) ?_
            show Steps p.tables e below (T308.setTop (mkF m 78 #[.val (.int p0), .val (.int p1), .val (.int v1), .val (.int v2), .val (.ref b101), .val (.int v58)] [])) _
            refine XS.iconst X308.here hx rfl (hb hby at_78) ?_
            exact kt
          refine own_arm hgo310 ?_
          exact own_armEnd X308 N308 e308 (by rw [hv60.trans (if_neg hc71_59)]))
      have hgo312 : ∀ t, Steps p.tables e below (T311.setTop (mkF m 79 #[.val (.int p0), .val (.int p1), .val (.int v1), .val (.int v2), .val (.ref b101), .val (.int v58)] [(.int v60)])) t → Steps p.tables e below (T173.setTop (mkF m 40 #[.val (.int p0), .val (.int p1), .val (.int v1), .val (.int v2), .val (.ref b101), .unset] [(.int (33893 : Int32))])) t := by
        intro t kt
        show Steps p.tables e below (T173.setTop (mkF m 40 #[.val (.int p0), .val (.int p1), .val (.int v1), .val (.int v2), .val (.ref b101), .unset] [(.int (33893 : Int32))])) _
        refine XS.iloadN X173.here hx rfl (hb hby at_40) rfl ?_
        show Steps p.tables e below (T173.setTop (mkF m 41 #[.val (.int p0), .val (.int p1), .val (.int v1), .val (.int v2), .val (.ref b101), .unset] [(.int v1), (.int (33893 : Int32))])) _
        refine XS.iconst X173.here hx rfl (hb hby at_41) ?_
        show Steps p.tables e below (T173.setTop (mkF m 42 #[.val (.int p0), .val (.int p1), .val (.int v1), .val (.int v2), .val (.ref b101), .unset] [(.int (4 : Int32)), (.int v1), (.int (33893 : Int32))])) _
        refine XS.imul X173.here hx rfl (hb hby at_42) rfl ?_
        show Steps p.tables e below (T173.setTop (mkF m 43 #[.val (.int p0), .val (.int p1), .val (.int v1), .val (.int v2), .val (.ref b101), .unset] [(.int (v1 * (4 : Int32))), (.int (33893 : Int32))])) _
        refine XS.iloadN X173.here hx rfl (hb hby at_43) rfl ?_
        show Steps p.tables e below (T173.setTop (mkF m 44 #[.val (.int p0), .val (.int p1), .val (.int v1), .val (.int v2), .val (.ref b101), .unset] [(.int v2), (.int (v1 * (4 : Int32))), (.int (33893 : Int32))])) _
        refine XS.iadd X173.here hx rfl (hb hby at_44) rfl ?_
        show Steps p.tables e below (T173.setTop (mkF m 45 #[.val (.int p0), .val (.int p1), .val (.int v1), .val (.int v2), .val (.ref b101), .unset] [(.int ((v1 * (4 : Int32)) + v2)), (.int (33893 : Int32))])) _
        refine XS.ishr X173.here hx rfl (hb hby at_45) rfl ?_
        show Steps p.tables e below (T173.setTop (mkF m 46 #[.val (.int p0), .val (.int p1), .val (.int v1), .val (.int v2), .val (.ref b101), .unset] [(.int ((33893 : Int32) >>> (((v1 * (4 : Int32)) + v2) &&& 31)))])) _
        refine XS.iconst X173.here hx rfl (hb hby at_46) ?_
        show Steps p.tables e below (T173.setTop (mkF m 47 #[.val (.int p0), .val (.int p1), .val (.int v1), .val (.int v2), .val (.ref b101), .unset] [(.int (1 : Int32)), (.int ((33893 : Int32) >>> (((v1 * (4 : Int32)) + v2) &&& 31)))])) _
        refine XS.iand X173.here hx rfl (hb hby at_47) rfl ?_
        show Steps p.tables e below (T173.setTop (mkF m 48 #[.val (.int p0), .val (.int p1), .val (.int v1), .val (.int v2), .val (.ref b101), .unset] [(.int (((33893 : Int32) >>> (((v1 * (4 : Int32)) + v2) &&& 31)) &&& (1 : Int32)))])) _
        refine st305 _ ?_
        show Steps p.tables e below (T305.setTop (mkF m 56 #[.val (.int p0), .val (.int p1), .val (.int v1), .val (.int v2), .val (.ref b101), .unset] [(.int v58)])) _
        refine XS.istore X305.here hx rfl (hb hby at_56) rfl (l' := #[.val (.int p0), .val (.int p1), .val (.int v1), .val (.int v2), .val (.ref b101), .val (.int v58)]) rfl ?_
        show Steps p.tables e below (T305.setTop (mkF m 58 #[.val (.int p0), .val (.int p1), .val (.int v1), .val (.int v2), .val (.ref b101), .val (.int v58)] [])) _
        refine XS.aload X305.here hx rfl (hb hby at_58) rfl rfl ?_
        show Steps p.tables e below (T305.setTop (mkF m 60 #[.val (.int p0), .val (.int p1), .val (.int v1), .val (.int v2), .val (.ref b101), .val (.int v58)] [(.ref b101)])) _
        refine XS.iloadN X305.here hx rfl (hb hby at_60) rfl ?_
        show Steps p.tables e below (T305.setTop (mkF m 61 #[.val (.int p0), .val (.int p1), .val (.int v1), .val (.int v2), .val (.ref b101), .val (.int v58)] [(.int v1), (.ref b101)])) _
        refine own_ldR X305 hx hZ e305 B173n (j := v1) (v := (.ref u_Network_Shape_TREE)) hin61_306 (by rw [hs38_45]; rfl) (g := (mkF m 61 #[.val (.int p0), .val (.int p1), .val (.int v1), .val (.int v2), .val (.ref b101), .val (.int v58)] [(.int v1), (.ref b101)])) rfl rfl (hb hby at_61) _ ?_
        show Steps p.tables e below (T305.setTop (mkF m 62 #[.val (.int p0), .val (.int p1), .val (.int v1), .val (.int v2), .val (.ref b101), .val (.int v58)] [(.ref u_Network_Shape_TREE)])) _
        refine XS.aload X305.here hx rfl (hb hby at_62) rfl rfl ?_
        show Steps p.tables e below (T305.setTop (mkF m 64 #[.val (.int p0), .val (.int p1), .val (.int v1), .val (.int v2), .val (.ref b101), .val (.int v58)] [(.ref b101), (.ref u_Network_Shape_TREE)])) _
        refine XS.iloadN X305.here hx rfl (hb hby at_64) rfl ?_
        show Steps p.tables e below (T305.setTop (mkF m 65 #[.val (.int p0), .val (.int p1), .val (.int v1), .val (.int v2), .val (.ref b101), .val (.int v58)] [(.int v2), (.ref b101), (.ref u_Network_Shape_TREE)])) _
        refine own_ldR X305 hx hZ e305 B173n (j := v2) (v := (.ref u_Network_Shape_TREE)) hin65_307 (by rw [hs40_56]; rfl) (g := (mkF m 65 #[.val (.int p0), .val (.int p1), .val (.int v1), .val (.int v2), .val (.ref b101), .val (.int v58)] [(.int v2), (.ref b101), (.ref u_Network_Shape_TREE)])) rfl rfl (hb hby at_65) _ ?_
        show Steps p.tables e below (T305.setTop (mkF m 66 #[.val (.int p0), .val (.int p1), .val (.int v1), .val (.int v2), .val (.ref b101), .val (.int v58)] [(.ref u_Network_Shape_TREE), (.ref u_Network_Shape_TREE)])) _
        refine st308.trans ?_
        show Steps p.tables e below (T308.setTop (mkF m 69 #[.val (.int p0), .val (.int p1), .val (.int v1), .val (.int v2), .val (.ref b101), .val (.int v58)] [(.int (own_r1 u_Network_Shape_TREE u_Network_Shape_TREE u_Network_Shape_TREE u_Network_Shape_GENERAL))])) _
        refine XS.iload X308.here hx rfl (hb hby at_69) rfl ?_
        show Steps p.tables e below (T308.setTop (mkF m 71 #[.val (.int p0), .val (.int p1), .val (.int v1), .val (.int v2), .val (.ref b101), .val (.int v58)] [(.int v58), (.int (own_r1 u_Network_Shape_TREE u_Network_Shape_TREE u_Network_Shape_TREE u_Network_Shape_GENERAL))])) _
        refine st311 _ ?_
        exact kt
      refine own_go hgo312 ?_
      have hz313 : v60 = 1 := own_leaf10 (p0 := p0) (p1 := p1) (u_Network_Shape_PATH := u_Network_Shape_PATH) (u_Network_Shape_STAR := u_Network_Shape_STAR) (u_Network_Shape_TREE := u_Network_Shape_TREE) (u_Network_Shape_GENERAL := u_Network_Shape_GENERAL) hv1 hv2 hv58 hv60 hs38_3 hs38_24 hs38_45 hs40_46 hs40_51 hs40_56 hne01 hne02 hne03 hne10 hne12 hne13 hne20 hne21 hne23 hne30 hne31 hne32
      exact own_retZ X311 hx Bd.returns Bd.notSynchronized (hb hby at_79) (by decide) (by decide) (Or.inr hz313) ⟨by rw [hz313], N311⟩
    · have hs40_61 : v2 = (3 : Int32) := own_is3 hv2 hs40_46 hs40_51 hs40_56
      obtain ⟨v63, hv63⟩ : ∃ z : Int32, z = (if (((33893 : Int32) >>> (((v1 * (4 : Int32)) + v2) &&& 31)) &&& (1 : Int32)) = (0 : Int32) then (0 : Int32) else (1 : Int32)) := ⟨_, rfl⟩
      obtain ⟨T316, lc316, X316, N316, e316, st316⟩ := own_mrg (n0 := n0) (h := h173) (g := (mkF m 48 #[.val (.int p0), .val (.int p1), .val (.int v1), .val (.int v2), .val (.ref b101), .unset] [(.int (((33893 : Int32) >>> (((v1 * (4 : Int32)) + v2) &&& 31)) &&& (1 : Int32)))])) (g' := (mkF m 56 #[.val (.int p0), .val (.int p1), .val (.int v1), .val (.int v2), .val (.ref b101), .unset] [(.int v63)])) X173 (by
        by_cases hc48_62 : (((33893 : Int32) >>> (((v1 * (4 : Int32)) + v2) &&& 31)) &&& (1 : Int32)) = (0 : Int32)
        · have hgo314 : ∀ t, Steps p.tables e below (T173.setTop (mkF m 56 #[.val (.int p0), .val (.int p1), .val (.int v1), .val (.int v2), .val (.ref b101), .unset] [(.int (0 : Int32))])) t → Steps p.tables e below (T173.setTop (mkF m 48 #[.val (.int p0), .val (.int p1), .val (.int v1), .val (.int v2), .val (.ref b101), .unset] [(.int (((33893 : Int32) >>> (((v1 * (4 : Int32)) + v2) &&& 31)) &&& (1 : Int32)))])) t := by
            intro t kt
            show Steps p.tables e below (T173.setTop (mkF m 48 #[.val (.int p0), .val (.int p1), .val (.int v1), .val (.int v2), .val (.ref b101), .unset] [(.int (((33893 : Int32) >>> (((v1 * (4 : Int32)) + v2) &&& 31)) &&& (1 : Int32)))])) _
            refine XS.ifYes X173.here hx rfl (pc0 := 48) (pc' := 55) rfl (hb hby at_48) rfl ((if0 _ _).trans (teq hc48_62).1) (by decide) (by decide) ?_
            show Steps p.tables e below (T173.setTop (mkF m 55 #[.val (.int p0), .val (.int p1), .val (.int v1), .val (.int v2), .val (.ref b101), .unset] [])) _
            refine XS.iconst X173.here hx rfl (hb hby at_55) ?_
            exact kt
          refine own_arm hgo314 ?_
          exact own_armEnd X173 N188 e173 (by rw [hv63.trans (if_pos hc48_62)])
        · have hgo315 : ∀ t, Steps p.tables e below (T173.setTop (mkF m 56 #[.val (.int p0), .val (.int p1), .val (.int v1), .val (.int v2), .val (.ref b101), .unset] [(.int (1 : Int32))])) t → Steps p.tables e below (T173.setTop (mkF m 48 #[.val (.int p0), .val (.int p1), .val (.int v1), .val (.int v2), .val (.ref b101), .unset] [(.int (((33893 : Int32) >>> (((v1 * (4 : Int32)) + v2) &&& 31)) &&& (1 : Int32)))])) t := by
            intro t kt
            show Steps p.tables e below (T173.setTop (mkF m 48 #[.val (.int p0), .val (.int p1), .val (.int v1), .val (.int v2), .val (.ref b101), .unset] [(.int (((33893 : Int32) >>> (((v1 * (4 : Int32)) + v2) &&& 31)) &&& (1 : Int32)))])) _
            refine XS.ifNo X173.here hx rfl (hb hby at_48) rfl ((if0 _ _).trans (feq hc48_62).1) ?_
            show Steps p.tables e below (T173.setTop (mkF m 51 #[.val (.int p0), .val (.int p1), .val (.int v1), .val (.int v2), .val (.ref b101), .unset] [])) _
            refine XS.iconst X173.here hx rfl (hb hby at_51) ?_
            show Steps p.tables e below (T173.setTop (mkF m 52 #[.val (.int p0), .val (.int p1), .val (.int v1), .val (.int v2), .val (.ref b101), .unset] [(.int (1 : Int32))])) _
            refine XS.goto X173.here hx rfl (pc0 := 52) (pc' := 56) rfl (hb hby at_52) (by decide) (by decide) ?_
            exact kt
          refine own_arm hgo315 ?_
          exact own_armEnd X173 N188 e173 (by rw [hv63.trans (if_neg hc48_62)]))
      have hin61_317 : ¬ v1 < 0 ∧ v1.toNatClampNeg < 4 := by rw [hs38_45]; decide
      have hin65_318 : ¬ v2 < 0 ∧ v2.toNatClampNeg < 4 := by rw [hs40_61]; decide
      obtain ⟨cq319, kq319, q319a, q319b, q319c⟩ := isOf hZ e316 F179
      obtain ⟨_, _, ⟨T319, L319, k319, n319⟩, -, X319, ⟨Lc319, hQ319, l319, y319, z319⟩, st319⟩ := X316.virtualBack hx (y := (⟨"com/example/swapgraph/swapgraph/Network$Shape", "within", "(Lcom/example/swapgraph/swapgraph/Network$Shape;)Z"⟩ : MethodName)) (z := (⟨"com/example/swapgraph/swapgraph/Network$Shape", "within", "(Lcom/example/swapgraph/swapgraph/Network$Shape;)Z"⟩ : MethodName)) hown (mvT hZ (hw _ (List.mem_of_getElem? (i := 13) rfl))) (mvT hZ (hw _ (List.mem_of_getElem? (i := 14) rfl))) (notFace_of_selects (args := #[]) (mvT hZ (hw _ (List.mem_of_getElem? (i := 16) rfl)))) (mvT hZ (hw _ (List.mem_of_getElem? (i := 16) rfl))) (mvT hZ (hw _ (List.mem_of_getElem? (i := 15) rfl))) (by decide) (backOf (W := 0) (rm1 l Z a0 hw [] u_Network_Shape_TREE u_Network_Shape_GENERAL u_Network_Shape_TREE u_Network_Shape_GENERAL h173 n0 Z186 F178 F180) hZ (hw _ (List.mem_of_getElem? (i := 17) rfl)) (hw _ (List.mem_of_getElem? (i := 3) rfl)) (by decide) (by decide)) q319a q319c (g := (mkF m 66 #[.val (.int p0), .val (.int p1), .val (.int v1), .val (.int v2), .val (.ref b101), .val (.int v63)] [(.ref u_Network_Shape_GENERAL), (.ref u_Network_Shape_TREE)])) rfl (by rw [hml]; rfl) (Steps.refl _) (argsL := [(.ref u_Network_Shape_GENERAL)]) (rest := []) (lenOf pd1 rfl) rfl (by show 2 * 0 + _ ≤ _; exact Nat.le_of_eq rfl) (hb hby at_66) (fun _ _ => ⟨rfl, e316, (by decide : 1 + 0 ≤ _), (by decide : 4 + 0 ≤ _)⟩)
      dsimp only [Pt.U, Pt.locs, Pt.cells, Pt.slots] at X319 l319 y319 z319 st319 hQ319
      subst l319 y319 z319
      obtain ⟨rfl, N319q, e319⟩ := hQ319
      have N319 := Fr.app N316 N319q
      obtain ⟨v65, hv65⟩ : ∃ z : Int32, z = (if (own_r1 u_Network_Shape_TREE u_Network_Shape_GENERAL u_Network_Shape_TREE u_Network_Shape_GENERAL) = v63 then (1 : Int32) else (0 : Int32)) := ⟨_, rfl⟩
      obtain ⟨T322, lc322, X322, N322, e322, st322⟩ := own_mrg (n0 := n0) (h := h173) (g := (mkF m 71 #[.val (.int p0), .val (.int p1), .val (.int v1), .val (.int v2), .val (.ref b101), .val (.int v63)] [(.int v63), (.int (own_r1 u_Network_Shape_TREE u_Network_Shape_GENERAL u_Network_Shape_TREE u_Network_Shape_GENERAL))])) (g' := (mkF m 79 #[.val (.int p0), .val (.int p1), .val (.int v1), .val (.int v2), .val (.ref b101), .val (.int v63)] [(.int v65)])) X319 (by
        by_cases hc71_64 : (own_r1 u_Network_Shape_TREE u_Network_Shape_GENERAL u_Network_Shape_TREE u_Network_Shape_GENERAL) = v63
        · have hgo320 : ∀ t, Steps p.tables e below (T319.setTop (mkF m 79 #[.val (.int p0), .val (.int p1), .val (.int v1), .val (.int v2), .val (.ref b101), .val (.int v63)] [(.int (1 : Int32))])) t → Steps p.tables e below (T319.setTop (mkF m 71 #[.val (.int p0), .val (.int p1), .val (.int v1), .val (.int v2), .val (.ref b101), .val (.int v63)] [(.int v63), (.int (own_r1 u_Network_Shape_TREE u_Network_Shape_GENERAL u_Network_Shape_TREE u_Network_Shape_GENERAL))])) t := by
            intro t kt
            show Steps p.tables e below (T319.setTop (mkF m 71 #[.val (.int p0), .val (.int p1), .val (.int v1), .val (.int v2), .val (.ref b101), .val (.int v63)] [(.int v63), (.int (own_r1 u_Network_Shape_TREE u_Network_Shape_GENERAL u_Network_Shape_TREE u_Network_Shape_GENERAL))])) _
            refine XS.icmpNo X319.here hx rfl (hb hby at_71) rfl (teq hc71_64).2 ?_
            show Steps p.tables e below (T319.setTop (mkF m 74 #[.val (.int p0), .val (.int p1), .val (.int v1), .val (.int v2), .val (.ref b101), .val (.int v63)] [])) _
            refine XS.iconst X319.here hx rfl (hb hby at_74) ?_
            show Steps p.tables e below (T319.setTop (mkF m 75 #[.val (.int p0), .val (.int p1), .val (.int v1), .val (.int v2), .val (.ref b101), .val (.int v63)] [(.int (1 : Int32))])) _
            refine XS.goto X319.here hx rfl (pc0 := 75) (pc' := 79) rfl (hb hby at_75) (by decide) (by decide) ?_
            exact kt
          refine own_arm hgo320 ?_
          exact own_armEnd X319 N319 e319 (by rw [hv65.trans (if_pos hc71_64)])
        · have hgo321 : ∀ t, Steps p.tables e below (T319.setTop (mkF m 79 #[.val (.int p0), .val (.int p1), .val (.int v1), .val (.int v2), .val (.ref b101), .val (.int v63)] [(.int (0 : Int32))])) t → Steps p.tables e below (T319.setTop (mkF m 71 #[.val (.int p0), .val (.int p1), .val (.int v1), .val (.int v2), .val (.ref b101), .val (.int v63)] [(.int v63), (.int (own_r1 u_Network_Shape_TREE u_Network_Shape_GENERAL u_Network_Shape_TREE u_Network_Shape_GENERAL))])) t := by
            intro t kt
            show Steps p.tables e below (T319.setTop (mkF m 71 #[.val (.int p0), .val (.int p1), .val (.int v1), .val (.int v2), .val (.ref b101), .val (.int v63)] [(.int v63), (.int (own_r1 u_Network_Shape_TREE u_Network_Shape_GENERAL u_Network_Shape_TREE u_Network_Shape_GENERAL))])) _
            refine XS.icmpYes X319.here hx rfl (pc0 := 71) (pc' := 78) rfl (hb hby at_71) rfl (feq hc71_64).2 (by decide) (by decide) ?_
            show Steps p.tables e below (T319.setTop (mkF m 78 #[.val (.int p0), .val (.int p1), .val (.int v1), .val (.int v2), .val (.ref b101), .val (.int v63)] [])) _
            refine XS.iconst X319.here hx rfl (hb hby at_78) ?_
            exact kt
          refine own_arm hgo321 ?_
          exact own_armEnd X319 N319 e319 (by rw [hv65.trans (if_neg hc71_64)]))
      have hgo323 : ∀ t, Steps p.tables e below (T322.setTop (mkF m 79 #[.val (.int p0), .val (.int p1), .val (.int v1), .val (.int v2), .val (.ref b101), .val (.int v63)] [(.int v65)])) t → Steps p.tables e below (T173.setTop (mkF m 40 #[.val (.int p0), .val (.int p1), .val (.int v1), .val (.int v2), .val (.ref b101), .unset] [(.int (33893 : Int32))])) t := by
        intro t kt
        show Steps p.tables e below (T173.setTop (mkF m 40 #[.val (.int p0), .val (.int p1), .val (.int v1), .val (.int v2), .val (.ref b101), .unset] [(.int (33893 : Int32))])) _
        refine XS.iloadN X173.here hx rfl (hb hby at_40) rfl ?_
        show Steps p.tables e below (T173.setTop (mkF m 41 #[.val (.int p0), .val (.int p1), .val (.int v1), .val (.int v2), .val (.ref b101), .unset] [(.int v1), (.int (33893 : Int32))])) _
        refine XS.iconst X173.here hx rfl (hb hby at_41) ?_
        show Steps p.tables e below (T173.setTop (mkF m 42 #[.val (.int p0), .val (.int p1), .val (.int v1), .val (.int v2), .val (.ref b101), .unset] [(.int (4 : Int32)), (.int v1), (.int (33893 : Int32))])) _
        refine XS.imul X173.here hx rfl (hb hby at_42) rfl ?_
        show Steps p.tables e below (T173.setTop (mkF m 43 #[.val (.int p0), .val (.int p1), .val (.int v1), .val (.int v2), .val (.ref b101), .unset] [(.int (v1 * (4 : Int32))), (.int (33893 : Int32))])) _
        refine XS.iloadN X173.here hx rfl (hb hby at_43) rfl ?_
        show Steps p.tables e below (T173.setTop (mkF m 44 #[.val (.int p0), .val (.int p1), .val (.int v1), .val (.int v2), .val (.ref b101), .unset] [(.int v2), (.int (v1 * (4 : Int32))), (.int (33893 : Int32))])) _
        refine XS.iadd X173.here hx rfl (hb hby at_44) rfl ?_
        show Steps p.tables e below (T173.setTop (mkF m 45 #[.val (.int p0), .val (.int p1), .val (.int v1), .val (.int v2), .val (.ref b101), .unset] [(.int ((v1 * (4 : Int32)) + v2)), (.int (33893 : Int32))])) _
        refine XS.ishr X173.here hx rfl (hb hby at_45) rfl ?_
        show Steps p.tables e below (T173.setTop (mkF m 46 #[.val (.int p0), .val (.int p1), .val (.int v1), .val (.int v2), .val (.ref b101), .unset] [(.int ((33893 : Int32) >>> (((v1 * (4 : Int32)) + v2) &&& 31)))])) _
        refine XS.iconst X173.here hx rfl (hb hby at_46) ?_
        show Steps p.tables e below (T173.setTop (mkF m 47 #[.val (.int p0), .val (.int p1), .val (.int v1), .val (.int v2), .val (.ref b101), .unset] [(.int (1 : Int32)), (.int ((33893 : Int32) >>> (((v1 * (4 : Int32)) + v2) &&& 31)))])) _
        refine XS.iand X173.here hx rfl (hb hby at_47) rfl ?_
        show Steps p.tables e below (T173.setTop (mkF m 48 #[.val (.int p0), .val (.int p1), .val (.int v1), .val (.int v2), .val (.ref b101), .unset] [(.int (((33893 : Int32) >>> (((v1 * (4 : Int32)) + v2) &&& 31)) &&& (1 : Int32)))])) _
        refine st316 _ ?_
        show Steps p.tables e below (T316.setTop (mkF m 56 #[.val (.int p0), .val (.int p1), .val (.int v1), .val (.int v2), .val (.ref b101), .unset] [(.int v63)])) _
        refine XS.istore X316.here hx rfl (hb hby at_56) rfl (l' := #[.val (.int p0), .val (.int p1), .val (.int v1), .val (.int v2), .val (.ref b101), .val (.int v63)]) rfl ?_
        show Steps p.tables e below (T316.setTop (mkF m 58 #[.val (.int p0), .val (.int p1), .val (.int v1), .val (.int v2), .val (.ref b101), .val (.int v63)] [])) _
        refine XS.aload X316.here hx rfl (hb hby at_58) rfl rfl ?_
        show Steps p.tables e below (T316.setTop (mkF m 60 #[.val (.int p0), .val (.int p1), .val (.int v1), .val (.int v2), .val (.ref b101), .val (.int v63)] [(.ref b101)])) _
        refine XS.iloadN X316.here hx rfl (hb hby at_60) rfl ?_
        show Steps p.tables e below (T316.setTop (mkF m 61 #[.val (.int p0), .val (.int p1), .val (.int v1), .val (.int v2), .val (.ref b101), .val (.int v63)] [(.int v1), (.ref b101)])) _
        refine own_ldR X316 hx hZ e316 B173n (j := v1) (v := (.ref u_Network_Shape_TREE)) hin61_317 (by rw [hs38_45]; rfl) (g := (mkF m 61 #[.val (.int p0), .val (.int p1), .val (.int v1), .val (.int v2), .val (.ref b101), .val (.int v63)] [(.int v1), (.ref b101)])) rfl rfl (hb hby at_61) _ ?_
        show Steps p.tables e below (T316.setTop (mkF m 62 #[.val (.int p0), .val (.int p1), .val (.int v1), .val (.int v2), .val (.ref b101), .val (.int v63)] [(.ref u_Network_Shape_TREE)])) _
        refine XS.aload X316.here hx rfl (hb hby at_62) rfl rfl ?_
        show Steps p.tables e below (T316.setTop (mkF m 64 #[.val (.int p0), .val (.int p1), .val (.int v1), .val (.int v2), .val (.ref b101), .val (.int v63)] [(.ref b101), (.ref u_Network_Shape_TREE)])) _
        refine XS.iloadN X316.here hx rfl (hb hby at_64) rfl ?_
        show Steps p.tables e below (T316.setTop (mkF m 65 #[.val (.int p0), .val (.int p1), .val (.int v1), .val (.int v2), .val (.ref b101), .val (.int v63)] [(.int v2), (.ref b101), (.ref u_Network_Shape_TREE)])) _
        refine own_ldR X316 hx hZ e316 B173n (j := v2) (v := (.ref u_Network_Shape_GENERAL)) hin65_318 (by rw [hs40_61]; rfl) (g := (mkF m 65 #[.val (.int p0), .val (.int p1), .val (.int v1), .val (.int v2), .val (.ref b101), .val (.int v63)] [(.int v2), (.ref b101), (.ref u_Network_Shape_TREE)])) rfl rfl (hb hby at_65) _ ?_
        show Steps p.tables e below (T316.setTop (mkF m 66 #[.val (.int p0), .val (.int p1), .val (.int v1), .val (.int v2), .val (.ref b101), .val (.int v63)] [(.ref u_Network_Shape_GENERAL), (.ref u_Network_Shape_TREE)])) _
        refine st319.trans ?_
        show Steps p.tables e below (T319.setTop (mkF m 69 #[.val (.int p0), .val (.int p1), .val (.int v1), .val (.int v2), .val (.ref b101), .val (.int v63)] [(.int (own_r1 u_Network_Shape_TREE u_Network_Shape_GENERAL u_Network_Shape_TREE u_Network_Shape_GENERAL))])) _
        refine XS.iload X319.here hx rfl (hb hby at_69) rfl ?_
        show Steps p.tables e below (T319.setTop (mkF m 71 #[.val (.int p0), .val (.int p1), .val (.int v1), .val (.int v2), .val (.ref b101), .val (.int v63)] [(.int v63), (.int (own_r1 u_Network_Shape_TREE u_Network_Shape_GENERAL u_Network_Shape_TREE u_Network_Shape_GENERAL))])) _
        refine st322 _ ?_
        exact kt
      refine own_go hgo323 ?_
      have hz324 : v65 = 1 := own_leaf11 (p0 := p0) (p1 := p1) (u_Network_Shape_PATH := u_Network_Shape_PATH) (u_Network_Shape_STAR := u_Network_Shape_STAR) (u_Network_Shape_TREE := u_Network_Shape_TREE) (u_Network_Shape_GENERAL := u_Network_Shape_GENERAL) hv1 hv2 hv63 hv65 hs38_3 hs38_24 hs38_45 hs40_46 hs40_51 hs40_56 hs40_61 hne01 hne02 hne03 hne10 hne12 hne13 hne20 hne21 hne23 hne30 hne31 hne32
      exact own_retZ X322 hx Bd.returns Bd.notSynchronized (hb hby at_79) (by decide) (by decide) (Or.inr hz324) ⟨by rw [hz324], N322⟩
  · have hs38_66 : v1 = (3 : Int32) := own_is3 hv1 hs38_3 hs38_24 hs38_45
    have hgo325 : ∀ t, Steps p.tables e below (T173.setTop (mkF m 40 #[.val (.int p0), .val (.int p1), .val (.int v1), .val (.int v2), .val (.ref b101), .unset] [(.int (33893 : Int32))])) t → Steps p.tables e below (T173.setTop (mkF m 38 #[.val (.int p0), .val (.int p1), .val (.int v1), .val (.int v2), .val (.ref b101), .unset] [])) t := by
      intro t kt
      show Steps p.tables e below (T173.setTop (mkF m 38 #[.val (.int p0), .val (.int p1), .val (.int v1), .val (.int v2), .val (.ref b101), .unset] [])) _
      refine X173.ldcInt hx hown (mvT hZ (hw _ (List.mem_of_getElem? (i := 12) rfl))) (g := (mkF m 38 #[.val (.int p0), .val (.int p1), .val (.int v1), .val (.int v2), .val (.ref b101), .unset] [])) rfl (hb hby at_38) _ ?_
      exact kt
    refine own_go hgo325 ?_
    by_cases hs40_67 : v2 = (0 : Int32)
    · obtain ⟨v69, hv69⟩ : ∃ z : Int32, z = (if (((33893 : Int32) >>> (((v1 * (4 : Int32)) + v2) &&& 31)) &&& (1 : Int32)) = (0 : Int32) then (0 : Int32) else (1 : Int32)) := ⟨_, rfl⟩
      obtain ⟨T328, lc328, X328, N328, e328, st328⟩ := own_mrg (n0 := n0) (h := h173) (g := (mkF m 48 #[.val (.int p0), .val (.int p1), .val (.int v1), .val (.int v2), .val (.ref b101), .unset] [(.int (((33893 : Int32) >>> (((v1 * (4 : Int32)) + v2) &&& 31)) &&& (1 : Int32)))])) (g' := (mkF m 56 #[.val (.int p0), .val (.int p1), .val (.int v1), .val (.int v2), .val (.ref b101), .unset] [(.int v69)])) X173 (by
        by_cases hc48_68 : (((33893 : Int32) >>> (((v1 * (4 : Int32)) + v2) &&& 31)) &&& (1 : Int32)) = (0 : Int32)
        · have hgo326 : ∀ t, Steps p.tables e below (T173.setTop (mkF m 56 #[.val (.int p0), .val (.int p1), .val (.int v1), .val (.int v2), .val (.ref b101), .unset] [(.int (0 : Int32))])) t → Steps p.tables e below (T173.setTop (mkF m 48 #[.val (.int p0), .val (.int p1), .val (.int v1), .val (.int v2), .val (.ref b101), .unset] [(.int (((33893 : Int32) >>> (((v1 * (4 : Int32)) + v2) &&& 31)) &&& (1 : Int32)))])) t := by
            intro t kt
            show Steps p.tables e below (T173.setTop (mkF m 48 #[.val (.int p0), .val (.int p1), .val (.int v1), .val (.int v2), .val (.ref b101), .unset] [(.int (((33893 : Int32) >>> (((v1 * (4 : Int32)) + v2) &&& 31)) &&& (1 : Int32)))])) _
            refine XS.ifYes X173.here hx rfl (pc0 := 48) (pc' := 55) rfl (hb hby at_48) rfl ((if0 _ _).trans (teq hc48_68).1) (by decide) (by decide) ?_
            show Steps p.tables e below (T173.setTop (mkF m 55 #[.val (.int p0), .val (.int p1), .val (.int v1), .val (.int v2), .val (.ref b101), .unset] [])) _
            refine XS.iconst X173.here hx rfl (hb hby at_55) ?_
            exact kt
          refine own_arm hgo326 ?_
          exact own_armEnd X173 N188 e173 (by rw [hv69.trans (if_pos hc48_68)])
        · have hgo327 : ∀ t, Steps p.tables e below (T173.setTop (mkF m 56 #[.val (.int p0), .val (.int p1), .val (.int v1), .val (.int v2), .val (.ref b101), .unset] [(.int (1 : Int32))])) t → Steps p.tables e below (T173.setTop (mkF m 48 #[.val (.int p0), .val (.int p1), .val (.int v1), .val (.int v2), .val (.ref b101), .unset] [(.int (((33893 : Int32) >>> (((v1 * (4 : Int32)) + v2) &&& 31)) &&& (1 : Int32)))])) t := by
            intro t kt
            show Steps p.tables e below (T173.setTop (mkF m 48 #[.val (.int p0), .val (.int p1), .val (.int v1), .val (.int v2), .val (.ref b101), .unset] [(.int (((33893 : Int32) >>> (((v1 * (4 : Int32)) + v2) &&& 31)) &&& (1 : Int32)))])) _
            refine XS.ifNo X173.here hx rfl (hb hby at_48) rfl ((if0 _ _).trans (feq hc48_68).1) ?_
            show Steps p.tables e below (T173.setTop (mkF m 51 #[.val (.int p0), .val (.int p1), .val (.int v1), .val (.int v2), .val (.ref b101), .unset] [])) _
            refine XS.iconst X173.here hx rfl (hb hby at_51) ?_
            show Steps p.tables e below (T173.setTop (mkF m 52 #[.val (.int p0), .val (.int p1), .val (.int v1), .val (.int v2), .val (.ref b101), .unset] [(.int (1 : Int32))])) _
            refine XS.goto X173.here hx rfl (pc0 := 52) (pc' := 56) rfl (hb hby at_52) (by decide) (by decide) ?_
            exact kt
          refine own_arm hgo327 ?_
          exact own_armEnd X173 N188 e173 (by rw [hv69.trans (if_neg hc48_68)]))
      have hin61_329 : ¬ v1 < 0 ∧ v1.toNatClampNeg < 4 := by rw [hs38_66]; decide
      have hin65_330 : ¬ v2 < 0 ∧ v2.toNatClampNeg < 4 := by rw [hs40_67]; decide
      obtain ⟨cq331, kq331, q331a, q331b, q331c⟩ := isOf hZ e328 F181
      obtain ⟨_, _, ⟨T331, L331, k331, n331⟩, -, X331, ⟨Lc331, hQ331, l331, y331, z331⟩, st331⟩ := X328.virtualBack hx (y := (⟨"com/example/swapgraph/swapgraph/Network$Shape", "within", "(Lcom/example/swapgraph/swapgraph/Network$Shape;)Z"⟩ : MethodName)) (z := (⟨"com/example/swapgraph/swapgraph/Network$Shape", "within", "(Lcom/example/swapgraph/swapgraph/Network$Shape;)Z"⟩ : MethodName)) hown (mvT hZ (hw _ (List.mem_of_getElem? (i := 13) rfl))) (mvT hZ (hw _ (List.mem_of_getElem? (i := 14) rfl))) (notFace_of_selects (args := #[]) (mvT hZ (hw _ (List.mem_of_getElem? (i := 16) rfl)))) (mvT hZ (hw _ (List.mem_of_getElem? (i := 16) rfl))) (mvT hZ (hw _ (List.mem_of_getElem? (i := 15) rfl))) (by decide) (backOf (W := 0) (rm1 l Z a0 hw [] u_Network_Shape_GENERAL u_Network_Shape_PATH u_Network_Shape_TREE u_Network_Shape_GENERAL h173 n0 Z186 F178 F180) hZ (hw _ (List.mem_of_getElem? (i := 17) rfl)) (hw _ (List.mem_of_getElem? (i := 3) rfl)) (by decide) (by decide)) q331a q331c (g := (mkF m 66 #[.val (.int p0), .val (.int p1), .val (.int v1), .val (.int v2), .val (.ref b101), .val (.int v69)] [(.ref u_Network_Shape_PATH), (.ref u_Network_Shape_GENERAL)])) rfl (by rw [hml]; rfl) (Steps.refl _) (argsL := [(.ref u_Network_Shape_PATH)]) (rest := []) (lenOf pd1 rfl) rfl (by show 2 * 0 + _ ≤ _; exact Nat.le_of_eq rfl) (hb hby at_66) (fun _ _ => ⟨rfl, e328, (by decide : 1 + 0 ≤ _), (by decide : 4 + 0 ≤ _)⟩)
      dsimp only [Pt.U, Pt.locs, Pt.cells, Pt.slots] at X331 l331 y331 z331 st331 hQ331
      subst l331 y331 z331
      obtain ⟨rfl, N331q, e331⟩ := hQ331
      have N331 := Fr.app N328 N331q
      obtain ⟨v71, hv71⟩ : ∃ z : Int32, z = (if (own_r1 u_Network_Shape_GENERAL u_Network_Shape_PATH u_Network_Shape_TREE u_Network_Shape_GENERAL) = v69 then (1 : Int32) else (0 : Int32)) := ⟨_, rfl⟩
      obtain ⟨T334, lc334, X334, N334, e334, st334⟩ := own_mrg (n0 := n0) (h := h173) (g := (mkF m 71 #[.val (.int p0), .val (.int p1), .val (.int v1), .val (.int v2), .val (.ref b101), .val (.int v69)] [(.int v69), (.int (own_r1 u_Network_Shape_GENERAL u_Network_Shape_PATH u_Network_Shape_TREE u_Network_Shape_GENERAL))])) (g' := (mkF m 79 #[.val (.int p0), .val (.int p1), .val (.int v1), .val (.int v2), .val (.ref b101), .val (.int v69)] [(.int v71)])) X331 (by
        by_cases hc71_70 : (own_r1 u_Network_Shape_GENERAL u_Network_Shape_PATH u_Network_Shape_TREE u_Network_Shape_GENERAL) = v69
        · have hgo332 : ∀ t, Steps p.tables e below (T331.setTop (mkF m 79 #[.val (.int p0), .val (.int p1), .val (.int v1), .val (.int v2), .val (.ref b101), .val (.int v69)] [(.int (1 : Int32))])) t → Steps p.tables e below (T331.setTop (mkF m 71 #[.val (.int p0), .val (.int p1), .val (.int v1), .val (.int v2), .val (.ref b101), .val (.int v69)] [(.int v69), (.int (own_r1 u_Network_Shape_GENERAL u_Network_Shape_PATH u_Network_Shape_TREE u_Network_Shape_GENERAL))])) t := by
            intro t kt
            show Steps p.tables e below (T331.setTop (mkF m 71 #[.val (.int p0), .val (.int p1), .val (.int v1), .val (.int v2), .val (.ref b101), .val (.int v69)] [(.int v69), (.int (own_r1 u_Network_Shape_GENERAL u_Network_Shape_PATH u_Network_Shape_TREE u_Network_Shape_GENERAL))])) _
            refine XS.icmpNo X331.here hx rfl (hb hby at_71) rfl (teq hc71_70).2 ?_
            show Steps p.tables e below (T331.setTop (mkF m 74 #[.val (.int p0), .val (.int p1), .val (.int v1), .val (.int v2), .val (.ref b101), .val (.int v69)] [])) _
            refine XS.iconst X331.here hx rfl (hb hby at_74) ?_
            show Steps p.tables e below (T331.setTop (mkF m 75 #[.val (.int p0), .val (.int p1), .val (.int v1), .val (.int v2), .val (.ref b101), .val (.int v69)] [(.int (1 : Int32))])) _
            refine XS.goto X331.here hx rfl (pc0 := 75) (pc' := 79) rfl (hb hby at_75) (by decide) (by decide) ?_
            exact kt
          refine own_arm hgo332 ?_
          exact own_armEnd X331 N331 e331 (by rw [hv71.trans (if_pos hc71_70)])
        · have hgo333 : ∀ t, Steps p.tables e below (T331.setTop (mkF m 79 #[.val (.int p0), .val (.int p1), .val (.int v1), .val (.int v2), .val (.ref b101), .val (.int v69)] [(.int (0 : Int32))])) t → Steps p.tables e below (T331.setTop (mkF m 71 #[.val (.int p0), .val (.int p1), .val (.int v1), .val (.int v2), .val (.ref b101), .val (.int v69)] [(.int v69), (.int (own_r1 u_Network_Shape_GENERAL u_Network_Shape_PATH u_Network_Shape_TREE u_Network_Shape_GENERAL))])) t := by
            intro t kt
            show Steps p.tables e below (T331.setTop (mkF m 71 #[.val (.int p0), .val (.int p1), .val (.int v1), .val (.int v2), .val (.ref b101), .val (.int v69)] [(.int v69), (.int (own_r1 u_Network_Shape_GENERAL u_Network_Shape_PATH u_Network_Shape_TREE u_Network_Shape_GENERAL))])) _
            refine XS.icmpYes X331.here hx rfl (pc0 := 71) (pc' := 78) rfl (hb hby at_71) rfl (feq hc71_70).2 (by decide) (by decide) ?_
            show Steps p.tables e below (T331.setTop (mkF m 78 #[.val (.int p0), .val (.int p1), .val (.int v1), .val (.int v2), .val (.ref b101), .val (.int v69)] [])) _
            refine XS.iconst X331.here hx rfl (hb hby at_78) ?_
            exact kt
          refine own_arm hgo333 ?_
          exact own_armEnd X331 N331 e331 (by rw [hv71.trans (if_neg hc71_70)]))
      have hgo335 : ∀ t, Steps p.tables e below (T334.setTop (mkF m 79 #[.val (.int p0), .val (.int p1), .val (.int v1), .val (.int v2), .val (.ref b101), .val (.int v69)] [(.int v71)])) t → Steps p.tables e below (T173.setTop (mkF m 40 #[.val (.int p0), .val (.int p1), .val (.int v1), .val (.int v2), .val (.ref b101), .unset] [(.int (33893 : Int32))])) t := by
        intro t kt
        show Steps p.tables e below (T173.setTop (mkF m 40 #[.val (.int p0), .val (.int p1), .val (.int v1), .val (.int v2), .val (.ref b101), .unset] [(.int (33893 : Int32))])) _
        refine XS.iloadN X173.here hx rfl (hb hby at_40) rfl ?_
        show Steps p.tables e below (T173.setTop (mkF m 41 #[.val (.int p0), .val (.int p1), .val (.int v1), .val (.int v2), .val (.ref b101), .unset] [(.int v1), (.int (33893 : Int32))])) _
        refine XS.iconst X173.here hx rfl (hb hby at_41) ?_
        show Steps p.tables e below (T173.setTop (mkF m 42 #[.val (.int p0), .val (.int p1), .val (.int v1), .val (.int v2), .val (.ref b101), .unset] [(.int (4 : Int32)), (.int v1), (.int (33893 : Int32))])) _
        refine XS.imul X173.here hx rfl (hb hby at_42) rfl ?_
        show Steps p.tables e below (T173.setTop (mkF m 43 #[.val (.int p0), .val (.int p1), .val (.int v1), .val (.int v2), .val (.ref b101), .unset] [(.int (v1 * (4 : Int32))), (.int (33893 : Int32))])) _
        refine XS.iloadN X173.here hx rfl (hb hby at_43) rfl ?_
        show Steps p.tables e below (T173.setTop (mkF m 44 #[.val (.int p0), .val (.int p1), .val (.int v1), .val (.int v2), .val (.ref b101), .unset] [(.int v2), (.int (v1 * (4 : Int32))), (.int (33893 : Int32))])) _
        refine XS.iadd X173.here hx rfl (hb hby at_44) rfl ?_
        show Steps p.tables e below (T173.setTop (mkF m 45 #[.val (.int p0), .val (.int p1), .val (.int v1), .val (.int v2), .val (.ref b101), .unset] [(.int ((v1 * (4 : Int32)) + v2)), (.int (33893 : Int32))])) _
        refine XS.ishr X173.here hx rfl (hb hby at_45) rfl ?_
        show Steps p.tables e below (T173.setTop (mkF m 46 #[.val (.int p0), .val (.int p1), .val (.int v1), .val (.int v2), .val (.ref b101), .unset] [(.int ((33893 : Int32) >>> (((v1 * (4 : Int32)) + v2) &&& 31)))])) _
        refine XS.iconst X173.here hx rfl (hb hby at_46) ?_
        show Steps p.tables e below (T173.setTop (mkF m 47 #[.val (.int p0), .val (.int p1), .val (.int v1), .val (.int v2), .val (.ref b101), .unset] [(.int (1 : Int32)), (.int ((33893 : Int32) >>> (((v1 * (4 : Int32)) + v2) &&& 31)))])) _
        refine XS.iand X173.here hx rfl (hb hby at_47) rfl ?_
        show Steps p.tables e below (T173.setTop (mkF m 48 #[.val (.int p0), .val (.int p1), .val (.int v1), .val (.int v2), .val (.ref b101), .unset] [(.int (((33893 : Int32) >>> (((v1 * (4 : Int32)) + v2) &&& 31)) &&& (1 : Int32)))])) _
        refine st328 _ ?_
        show Steps p.tables e below (T328.setTop (mkF m 56 #[.val (.int p0), .val (.int p1), .val (.int v1), .val (.int v2), .val (.ref b101), .unset] [(.int v69)])) _
        refine XS.istore X328.here hx rfl (hb hby at_56) rfl (l' := #[.val (.int p0), .val (.int p1), .val (.int v1), .val (.int v2), .val (.ref b101), .val (.int v69)]) rfl ?_
        show Steps p.tables e below (T328.setTop (mkF m 58 #[.val (.int p0), .val (.int p1), .val (.int v1), .val (.int v2), .val (.ref b101), .val (.int v69)] [])) _
        refine XS.aload X328.here hx rfl (hb hby at_58) rfl rfl ?_
        show Steps p.tables e below (T328.setTop (mkF m 60 #[.val (.int p0), .val (.int p1), .val (.int v1), .val (.int v2), .val (.ref b101), .val (.int v69)] [(.ref b101)])) _
        refine XS.iloadN X328.here hx rfl (hb hby at_60) rfl ?_
        show Steps p.tables e below (T328.setTop (mkF m 61 #[.val (.int p0), .val (.int p1), .val (.int v1), .val (.int v2), .val (.ref b101), .val (.int v69)] [(.int v1), (.ref b101)])) _
        refine own_ldR X328 hx hZ e328 B173n (j := v1) (v := (.ref u_Network_Shape_GENERAL)) hin61_329 (by rw [hs38_66]; rfl) (g := (mkF m 61 #[.val (.int p0), .val (.int p1), .val (.int v1), .val (.int v2), .val (.ref b101), .val (.int v69)] [(.int v1), (.ref b101)])) rfl rfl (hb hby at_61) _ ?_
        show Steps p.tables e below (T328.setTop (mkF m 62 #[.val (.int p0), .val (.int p1), .val (.int v1), .val (.int v2), .val (.ref b101), .val (.int v69)] [(.ref u_Network_Shape_GENERAL)])) _
        refine XS.aload X328.here hx rfl (hb hby at_62) rfl rfl ?_
        show Steps p.tables e below (T328.setTop (mkF m 64 #[.val (.int p0), .val (.int p1), .val (.int v1), .val (.int v2), .val (.ref b101), .val (.int v69)] [(.ref b101), (.ref u_Network_Shape_GENERAL)])) _
        refine XS.iloadN X328.here hx rfl (hb hby at_64) rfl ?_
        show Steps p.tables e below (T328.setTop (mkF m 65 #[.val (.int p0), .val (.int p1), .val (.int v1), .val (.int v2), .val (.ref b101), .val (.int v69)] [(.int v2), (.ref b101), (.ref u_Network_Shape_GENERAL)])) _
        refine own_ldR X328 hx hZ e328 B173n (j := v2) (v := (.ref u_Network_Shape_PATH)) hin65_330 (by rw [hs40_67]; rfl) (g := (mkF m 65 #[.val (.int p0), .val (.int p1), .val (.int v1), .val (.int v2), .val (.ref b101), .val (.int v69)] [(.int v2), (.ref b101), (.ref u_Network_Shape_GENERAL)])) rfl rfl (hb hby at_65) _ ?_
        show Steps p.tables e below (T328.setTop (mkF m 66 #[.val (.int p0), .val (.int p1), .val (.int v1), .val (.int v2), .val (.ref b101), .val (.int v69)] [(.ref u_Network_Shape_PATH), (.ref u_Network_Shape_GENERAL)])) _
        refine st331.trans ?_
        show Steps p.tables e below (T331.setTop (mkF m 69 #[.val (.int p0), .val (.int p1), .val (.int v1), .val (.int v2), .val (.ref b101), .val (.int v69)] [(.int (own_r1 u_Network_Shape_GENERAL u_Network_Shape_PATH u_Network_Shape_TREE u_Network_Shape_GENERAL))])) _
        refine XS.iload X331.here hx rfl (hb hby at_69) rfl ?_
        show Steps p.tables e below (T331.setTop (mkF m 71 #[.val (.int p0), .val (.int p1), .val (.int v1), .val (.int v2), .val (.ref b101), .val (.int v69)] [(.int v69), (.int (own_r1 u_Network_Shape_GENERAL u_Network_Shape_PATH u_Network_Shape_TREE u_Network_Shape_GENERAL))])) _
        refine st334 _ ?_
        exact kt
      refine own_go hgo335 ?_
      have hz336 : v71 = 1 := own_leaf12 (p0 := p0) (p1 := p1) (u_Network_Shape_PATH := u_Network_Shape_PATH) (u_Network_Shape_STAR := u_Network_Shape_STAR) (u_Network_Shape_TREE := u_Network_Shape_TREE) (u_Network_Shape_GENERAL := u_Network_Shape_GENERAL) hv1 hv2 hv69 hv71 hs38_3 hs38_24 hs38_45 hs38_66 hs40_67 hne01 hne02 hne03 hne10 hne12 hne13 hne20 hne21 hne23 hne30 hne31 hne32
      exact own_retZ X334 hx Bd.returns Bd.notSynchronized (hb hby at_79) (by decide) (by decide) (Or.inr hz336) ⟨by rw [hz336], N334⟩
    by_cases hs40_72 : v2 = (1 : Int32)
    · obtain ⟨v74, hv74⟩ : ∃ z : Int32, z = (if (((33893 : Int32) >>> (((v1 * (4 : Int32)) + v2) &&& 31)) &&& (1 : Int32)) = (0 : Int32) then (0 : Int32) else (1 : Int32)) := ⟨_, rfl⟩
      obtain ⟨T339, lc339, X339, N339, e339, st339⟩ := own_mrg (n0 := n0) (h := h173) (g := (mkF m 48 #[.val (.int p0), .val (.int p1), .val (.int v1), .val (.int v2), .val (.ref b101), .unset] [(.int (((33893 : Int32) >>> (((v1 * (4 : Int32)) + v2) &&& 31)) &&& (1 : Int32)))])) (g' := (mkF m 56 #[.val (.int p0), .val (.int p1), .val (.int v1), .val (.int v2), .val (.ref b101), .unset] [(.int v74)])) X173 (by
        by_cases hc48_73 : (((33893 : Int32) >>> (((v1 * (4 : Int32)) + v2) &&& 31)) &&& (1 : Int32)) = (0 : Int32)
        · have hgo337 : ∀ t, Steps p.tables e below (T173.setTop (mkF m 56 #[.val (.int p0), .val (.int p1), .val (.int v1), .val (.int v2), .val (.ref b101), .unset] [(.int (0 : Int32))])) t → Steps p.tables e below (T173.setTop (mkF m 48 #[.val (.int p0), .val (.int p1), .val (.int v1), .val (.int v2), .val (.ref b101), .unset] [(.int (((33893 : Int32) >>> (((v1 * (4 : Int32)) + v2) &&& 31)) &&& (1 : Int32)))])) t := by
            intro t kt
            show Steps p.tables e below (T173.setTop (mkF m 48 #[.val (.int p0), .val (.int p1), .val (.int v1), .val (.int v2), .val (.ref b101), .unset] [(.int (((33893 : Int32) >>> (((v1 * (4 : Int32)) + v2) &&& 31)) &&& (1 : Int32)))])) _
            refine XS.ifYes X173.here hx rfl (pc0 := 48) (pc' := 55) rfl (hb hby at_48) rfl ((if0 _ _).trans (teq hc48_73).1) (by decide) (by decide) ?_
            show Steps p.tables e below (T173.setTop (mkF m 55 #[.val (.int p0), .val (.int p1), .val (.int v1), .val (.int v2), .val (.ref b101), .unset] [])) _
            refine XS.iconst X173.here hx rfl (hb hby at_55) ?_
            exact kt
          refine own_arm hgo337 ?_
          exact own_armEnd X173 N188 e173 (by rw [hv74.trans (if_pos hc48_73)])
        · have hgo338 : ∀ t, Steps p.tables e below (T173.setTop (mkF m 56 #[.val (.int p0), .val (.int p1), .val (.int v1), .val (.int v2), .val (.ref b101), .unset] [(.int (1 : Int32))])) t → Steps p.tables e below (T173.setTop (mkF m 48 #[.val (.int p0), .val (.int p1), .val (.int v1), .val (.int v2), .val (.ref b101), .unset] [(.int (((33893 : Int32) >>> (((v1 * (4 : Int32)) + v2) &&& 31)) &&& (1 : Int32)))])) t := by
            intro t kt
            show Steps p.tables e below (T173.setTop (mkF m 48 #[.val (.int p0), .val (.int p1), .val (.int v1), .val (.int v2), .val (.ref b101), .unset] [(.int (((33893 : Int32) >>> (((v1 * (4 : Int32)) + v2) &&& 31)) &&& (1 : Int32)))])) _
            refine XS.ifNo X173.here hx rfl (hb hby at_48) rfl ((if0 _ _).trans (feq hc48_73).1) ?_
            show Steps p.tables e below (T173.setTop (mkF m 51 #[.val (.int p0), .val (.int p1), .val (.int v1), .val (.int v2), .val (.ref b101), .unset] [])) _
            refine XS.iconst X173.here hx rfl (hb hby at_51) ?_
            show Steps p.tables e below (T173.setTop (mkF m 52 #[.val (.int p0), .val (.int p1), .val (.int v1), .val (.int v2), .val (.ref b101), .unset] [(.int (1 : Int32))])) _
            refine XS.goto X173.here hx rfl (pc0 := 52) (pc' := 56) rfl (hb hby at_52) (by decide) (by decide) ?_
            exact kt
          refine own_arm hgo338 ?_
          exact own_armEnd X173 N188 e173 (by rw [hv74.trans (if_neg hc48_73)]))
      have hin61_340 : ¬ v1 < 0 ∧ v1.toNatClampNeg < 4 := by rw [hs38_66]; decide
      have hin65_341 : ¬ v2 < 0 ∧ v2.toNatClampNeg < 4 := by rw [hs40_72]; decide
      obtain ⟨cq342, kq342, q342a, q342b, q342c⟩ := isOf hZ e339 F181
      obtain ⟨_, _, ⟨T342, L342, k342, n342⟩, -, X342, ⟨Lc342, hQ342, l342, y342, z342⟩, st342⟩ := X339.virtualBack hx (y := (⟨"com/example/swapgraph/swapgraph/Network$Shape", "within", "(Lcom/example/swapgraph/swapgraph/Network$Shape;)Z"⟩ : MethodName)) (z := (⟨"com/example/swapgraph/swapgraph/Network$Shape", "within", "(Lcom/example/swapgraph/swapgraph/Network$Shape;)Z"⟩ : MethodName)) hown (mvT hZ (hw _ (List.mem_of_getElem? (i := 13) rfl))) (mvT hZ (hw _ (List.mem_of_getElem? (i := 14) rfl))) (notFace_of_selects (args := #[]) (mvT hZ (hw _ (List.mem_of_getElem? (i := 16) rfl)))) (mvT hZ (hw _ (List.mem_of_getElem? (i := 16) rfl))) (mvT hZ (hw _ (List.mem_of_getElem? (i := 15) rfl))) (by decide) (backOf (W := 0) (rm1 l Z a0 hw [] u_Network_Shape_GENERAL u_Network_Shape_STAR u_Network_Shape_TREE u_Network_Shape_GENERAL h173 n0 Z186 F178 F180) hZ (hw _ (List.mem_of_getElem? (i := 17) rfl)) (hw _ (List.mem_of_getElem? (i := 3) rfl)) (by decide) (by decide)) q342a q342c (g := (mkF m 66 #[.val (.int p0), .val (.int p1), .val (.int v1), .val (.int v2), .val (.ref b101), .val (.int v74)] [(.ref u_Network_Shape_STAR), (.ref u_Network_Shape_GENERAL)])) rfl (by rw [hml]; rfl) (Steps.refl _) (argsL := [(.ref u_Network_Shape_STAR)]) (rest := []) (lenOf pd1 rfl) rfl (by show 2 * 0 + _ ≤ _; exact Nat.le_of_eq rfl) (hb hby at_66) (fun _ _ => ⟨rfl, e339, (by decide : 1 + 0 ≤ _), (by decide : 4 + 0 ≤ _)⟩)
      dsimp only [Pt.U, Pt.locs, Pt.cells, Pt.slots] at X342 l342 y342 z342 st342 hQ342
      subst l342 y342 z342
      obtain ⟨rfl, N342q, e342⟩ := hQ342
      have N342 := Fr.app N339 N342q
      obtain ⟨v76, hv76⟩ : ∃ z : Int32, z = (if (own_r1 u_Network_Shape_GENERAL u_Network_Shape_STAR u_Network_Shape_TREE u_Network_Shape_GENERAL) = v74 then (1 : Int32) else (0 : Int32)) := ⟨_, rfl⟩
      obtain ⟨T345, lc345, X345, N345, e345, st345⟩ := own_mrg (n0 := n0) (h := h173) (g := (mkF m 71 #[.val (.int p0), .val (.int p1), .val (.int v1), .val (.int v2), .val (.ref b101), .val (.int v74)] [(.int v74), (.int (own_r1 u_Network_Shape_GENERAL u_Network_Shape_STAR u_Network_Shape_TREE u_Network_Shape_GENERAL))])) (g' := (mkF m 79 #[.val (.int p0), .val (.int p1), .val (.int v1), .val (.int v2), .val (.ref b101), .val (.int v74)] [(.int v76)])) X342 (by
        by_cases hc71_75 : (own_r1 u_Network_Shape_GENERAL u_Network_Shape_STAR u_Network_Shape_TREE u_Network_Shape_GENERAL) = v74
        · have hgo343 : ∀ t, Steps p.tables e below (T342.setTop (mkF m 79 #[.val (.int p0), .val (.int p1), .val (.int v1), .val (.int v2), .val (.ref b101), .val (.int v74)] [(.int (1 : Int32))])) t → Steps p.tables e below (T342.setTop (mkF m 71 #[.val (.int p0), .val (.int p1), .val (.int v1), .val (.int v2), .val (.ref b101), .val (.int v74)] [(.int v74), (.int (own_r1 u_Network_Shape_GENERAL u_Network_Shape_STAR u_Network_Shape_TREE u_Network_Shape_GENERAL))])) t := by
            intro t kt
            show Steps p.tables e below (T342.setTop (mkF m 71 #[.val (.int p0), .val (.int p1), .val (.int v1), .val (.int v2), .val (.ref b101), .val (.int v74)] [(.int v74), (.int (own_r1 u_Network_Shape_GENERAL u_Network_Shape_STAR u_Network_Shape_TREE u_Network_Shape_GENERAL))])) _
            refine XS.icmpNo X342.here hx rfl (hb hby at_71) rfl (teq hc71_75).2 ?_
            show Steps p.tables e below (T342.setTop (mkF m 74 #[.val (.int p0), .val (.int p1), .val (.int v1), .val (.int v2), .val (.ref b101), .val (.int v74)] [])) _
            refine XS.iconst X342.here hx rfl (hb hby at_74) ?_
            show Steps p.tables e below (T342.setTop (mkF m 75 #[.val (.int p0), .val (.int p1), .val (.int v1), .val (.int v2), .val (.ref b101), .val (.int v74)] [(.int (1 : Int32))])) _
            refine XS.goto X342.here hx rfl (pc0 := 75) (pc' := 79) rfl (hb hby at_75) (by decide) (by decide) ?_
            exact kt
          refine own_arm hgo343 ?_
          exact own_armEnd X342 N342 e342 (by rw [hv76.trans (if_pos hc71_75)])
        · have hgo344 : ∀ t, Steps p.tables e below (T342.setTop (mkF m 79 #[.val (.int p0), .val (.int p1), .val (.int v1), .val (.int v2), .val (.ref b101), .val (.int v74)] [(.int (0 : Int32))])) t → Steps p.tables e below (T342.setTop (mkF m 71 #[.val (.int p0), .val (.int p1), .val (.int v1), .val (.int v2), .val (.ref b101), .val (.int v74)] [(.int v74), (.int (own_r1 u_Network_Shape_GENERAL u_Network_Shape_STAR u_Network_Shape_TREE u_Network_Shape_GENERAL))])) t := by
            intro t kt
            show Steps p.tables e below (T342.setTop (mkF m 71 #[.val (.int p0), .val (.int p1), .val (.int v1), .val (.int v2), .val (.ref b101), .val (.int v74)] [(.int v74), (.int (own_r1 u_Network_Shape_GENERAL u_Network_Shape_STAR u_Network_Shape_TREE u_Network_Shape_GENERAL))])) _
            refine XS.icmpYes X342.here hx rfl (pc0 := 71) (pc' := 78) rfl (hb hby at_71) rfl (feq hc71_75).2 (by decide) (by decide) ?_
            show Steps p.tables e below (T342.setTop (mkF m 78 #[.val (.int p0), .val (.int p1), .val (.int v1), .val (.int v2), .val (.ref b101), .val (.int v74)] [])) _
            refine XS.iconst X342.here hx rfl (hb hby at_78) ?_
            exact kt
          refine own_arm hgo344 ?_
          exact own_armEnd X342 N342 e342 (by rw [hv76.trans (if_neg hc71_75)]))
      have hgo346 : ∀ t, Steps p.tables e below (T345.setTop (mkF m 79 #[.val (.int p0), .val (.int p1), .val (.int v1), .val (.int v2), .val (.ref b101), .val (.int v74)] [(.int v76)])) t → Steps p.tables e below (T173.setTop (mkF m 40 #[.val (.int p0), .val (.int p1), .val (.int v1), .val (.int v2), .val (.ref b101), .unset] [(.int (33893 : Int32))])) t := by
        intro t kt
        show Steps p.tables e below (T173.setTop (mkF m 40 #[.val (.int p0), .val (.int p1), .val (.int v1), .val (.int v2), .val (.ref b101), .unset] [(.int (33893 : Int32))])) _
        refine XS.iloadN X173.here hx rfl (hb hby at_40) rfl ?_
        show Steps p.tables e below (T173.setTop (mkF m 41 #[.val (.int p0), .val (.int p1), .val (.int v1), .val (.int v2), .val (.ref b101), .unset] [(.int v1), (.int (33893 : Int32))])) _
        refine XS.iconst X173.here hx rfl (hb hby at_41) ?_
        show Steps p.tables e below (T173.setTop (mkF m 42 #[.val (.int p0), .val (.int p1), .val (.int v1), .val (.int v2), .val (.ref b101), .unset] [(.int (4 : Int32)), (.int v1), (.int (33893 : Int32))])) _
        refine XS.imul X173.here hx rfl (hb hby at_42) rfl ?_
        show Steps p.tables e below (T173.setTop (mkF m 43 #[.val (.int p0), .val (.int p1), .val (.int v1), .val (.int v2), .val (.ref b101), .unset] [(.int (v1 * (4 : Int32))), (.int (33893 : Int32))])) _
        refine XS.iloadN X173.here hx rfl (hb hby at_43) rfl ?_
        show Steps p.tables e below (T173.setTop (mkF m 44 #[.val (.int p0), .val (.int p1), .val (.int v1), .val (.int v2), .val (.ref b101), .unset] [(.int v2), (.int (v1 * (4 : Int32))), (.int (33893 : Int32))])) _
        refine XS.iadd X173.here hx rfl (hb hby at_44) rfl ?_
        show Steps p.tables e below (T173.setTop (mkF m 45 #[.val (.int p0), .val (.int p1), .val (.int v1), .val (.int v2), .val (.ref b101), .unset] [(.int ((v1 * (4 : Int32)) + v2)), (.int (33893 : Int32))])) _
        refine XS.ishr X173.here hx rfl (hb hby at_45) rfl ?_
        show Steps p.tables e below (T173.setTop (mkF m 46 #[.val (.int p0), .val (.int p1), .val (.int v1), .val (.int v2), .val (.ref b101), .unset] [(.int ((33893 : Int32) >>> (((v1 * (4 : Int32)) + v2) &&& 31)))])) _
        refine XS.iconst X173.here hx rfl (hb hby at_46) ?_
        show Steps p.tables e below (T173.setTop (mkF m 47 #[.val (.int p0), .val (.int p1), .val (.int v1), .val (.int v2), .val (.ref b101), .unset] [(.int (1 : Int32)), (.int ((33893 : Int32) >>> (((v1 * (4 : Int32)) + v2) &&& 31)))])) _
        refine XS.iand X173.here hx rfl (hb hby at_47) rfl ?_
        show Steps p.tables e below (T173.setTop (mkF m 48 #[.val (.int p0), .val (.int p1), .val (.int v1), .val (.int v2), .val (.ref b101), .unset] [(.int (((33893 : Int32) >>> (((v1 * (4 : Int32)) + v2) &&& 31)) &&& (1 : Int32)))])) _
        refine st339 _ ?_
        show Steps p.tables e below (T339.setTop (mkF m 56 #[.val (.int p0), .val (.int p1), .val (.int v1), .val (.int v2), .val (.ref b101), .unset] [(.int v74)])) _
        refine XS.istore X339.here hx rfl (hb hby at_56) rfl (l' := #[.val (.int p0), .val (.int p1), .val (.int v1), .val (.int v2), .val (.ref b101), .val (.int v74)]) rfl ?_
        show Steps p.tables e below (T339.setTop (mkF m 58 #[.val (.int p0), .val (.int p1), .val (.int v1), .val (.int v2), .val (.ref b101), .val (.int v74)] [])) _
        refine XS.aload X339.here hx rfl (hb hby at_58) rfl rfl ?_
        show Steps p.tables e below (T339.setTop (mkF m 60 #[.val (.int p0), .val (.int p1), .val (.int v1), .val (.int v2), .val (.ref b101), .val (.int v74)] [(.ref b101)])) _
        refine XS.iloadN X339.here hx rfl (hb hby at_60) rfl ?_
        show Steps p.tables e below (T339.setTop (mkF m 61 #[.val (.int p0), .val (.int p1), .val (.int v1), .val (.int v2), .val (.ref b101), .val (.int v74)] [(.int v1), (.ref b101)])) _
        refine own_ldR X339 hx hZ e339 B173n (j := v1) (v := (.ref u_Network_Shape_GENERAL)) hin61_340 (by rw [hs38_66]; rfl) (g := (mkF m 61 #[.val (.int p0), .val (.int p1), .val (.int v1), .val (.int v2), .val (.ref b101), .val (.int v74)] [(.int v1), (.ref b101)])) rfl rfl (hb hby at_61) _ ?_
        show Steps p.tables e below (T339.setTop (mkF m 62 #[.val (.int p0), .val (.int p1), .val (.int v1), .val (.int v2), .val (.ref b101), .val (.int v74)] [(.ref u_Network_Shape_GENERAL)])) _
        refine XS.aload X339.here hx rfl (hb hby at_62) rfl rfl ?_
        show Steps p.tables e below (T339.setTop (mkF m 64 #[.val (.int p0), .val (.int p1), .val (.int v1), .val (.int v2), .val (.ref b101), .val (.int v74)] [(.ref b101), (.ref u_Network_Shape_GENERAL)])) _
        refine XS.iloadN X339.here hx rfl (hb hby at_64) rfl ?_
        show Steps p.tables e below (T339.setTop (mkF m 65 #[.val (.int p0), .val (.int p1), .val (.int v1), .val (.int v2), .val (.ref b101), .val (.int v74)] [(.int v2), (.ref b101), (.ref u_Network_Shape_GENERAL)])) _
        refine own_ldR X339 hx hZ e339 B173n (j := v2) (v := (.ref u_Network_Shape_STAR)) hin65_341 (by rw [hs40_72]; rfl) (g := (mkF m 65 #[.val (.int p0), .val (.int p1), .val (.int v1), .val (.int v2), .val (.ref b101), .val (.int v74)] [(.int v2), (.ref b101), (.ref u_Network_Shape_GENERAL)])) rfl rfl (hb hby at_65) _ ?_
        show Steps p.tables e below (T339.setTop (mkF m 66 #[.val (.int p0), .val (.int p1), .val (.int v1), .val (.int v2), .val (.ref b101), .val (.int v74)] [(.ref u_Network_Shape_STAR), (.ref u_Network_Shape_GENERAL)])) _
        refine st342.trans ?_
        show Steps p.tables e below (T342.setTop (mkF m 69 #[.val (.int p0), .val (.int p1), .val (.int v1), .val (.int v2), .val (.ref b101), .val (.int v74)] [(.int (own_r1 u_Network_Shape_GENERAL u_Network_Shape_STAR u_Network_Shape_TREE u_Network_Shape_GENERAL))])) _
        refine XS.iload X342.here hx rfl (hb hby at_69) rfl ?_
        show Steps p.tables e below (T342.setTop (mkF m 71 #[.val (.int p0), .val (.int p1), .val (.int v1), .val (.int v2), .val (.ref b101), .val (.int v74)] [(.int v74), (.int (own_r1 u_Network_Shape_GENERAL u_Network_Shape_STAR u_Network_Shape_TREE u_Network_Shape_GENERAL))])) _
        refine st345 _ ?_
        exact kt
      refine own_go hgo346 ?_
      have hz347 : v76 = 1 := own_leaf13 (p0 := p0) (p1 := p1) (u_Network_Shape_PATH := u_Network_Shape_PATH) (u_Network_Shape_STAR := u_Network_Shape_STAR) (u_Network_Shape_TREE := u_Network_Shape_TREE) (u_Network_Shape_GENERAL := u_Network_Shape_GENERAL) hv1 hv2 hv74 hv76 hs38_3 hs38_24 hs38_45 hs38_66 hs40_67 hs40_72 hne01 hne02 hne03 hne10 hne12 hne13 hne20 hne21 hne23 hne30 hne31 hne32
      exact own_retZ X345 hx Bd.returns Bd.notSynchronized (hb hby at_79) (by decide) (by decide) (Or.inr hz347) ⟨by rw [hz347], N345⟩
    by_cases hs40_77 : v2 = (2 : Int32)
    · obtain ⟨v79, hv79⟩ : ∃ z : Int32, z = (if (((33893 : Int32) >>> (((v1 * (4 : Int32)) + v2) &&& 31)) &&& (1 : Int32)) = (0 : Int32) then (0 : Int32) else (1 : Int32)) := ⟨_, rfl⟩
      obtain ⟨T350, lc350, X350, N350, e350, st350⟩ := own_mrg (n0 := n0) (h := h173) (g := (mkF m 48 #[.val (.int p0), .val (.int p1), .val (.int v1), .val (.int v2), .val (.ref b101), .unset] [(.int (((33893 : Int32) >>> (((v1 * (4 : Int32)) + v2) &&& 31)) &&& (1 : Int32)))])) (g' := (mkF m 56 #[.val (.int p0), .val (.int p1), .val (.int v1), .val (.int v2), .val (.ref b101), .unset] [(.int v79)])) X173 (by
        by_cases hc48_78 : (((33893 : Int32) >>> (((v1 * (4 : Int32)) + v2) &&& 31)) &&& (1 : Int32)) = (0 : Int32)
        · have hgo348 : ∀ t, Steps p.tables e below (T173.setTop (mkF m 56 #[.val (.int p0), .val (.int p1), .val (.int v1), .val (.int v2), .val (.ref b101), .unset] [(.int (0 : Int32))])) t → Steps p.tables e below (T173.setTop (mkF m 48 #[.val (.int p0), .val (.int p1), .val (.int v1), .val (.int v2), .val (.ref b101), .unset] [(.int (((33893 : Int32) >>> (((v1 * (4 : Int32)) + v2) &&& 31)) &&& (1 : Int32)))])) t := by
            intro t kt
            show Steps p.tables e below (T173.setTop (mkF m 48 #[.val (.int p0), .val (.int p1), .val (.int v1), .val (.int v2), .val (.ref b101), .unset] [(.int (((33893 : Int32) >>> (((v1 * (4 : Int32)) + v2) &&& 31)) &&& (1 : Int32)))])) _
            refine XS.ifYes X173.here hx rfl (pc0 := 48) (pc' := 55) rfl (hb hby at_48) rfl ((if0 _ _).trans (teq hc48_78).1) (by decide) (by decide) ?_
            show Steps p.tables e below (T173.setTop (mkF m 55 #[.val (.int p0), .val (.int p1), .val (.int v1), .val (.int v2), .val (.ref b101), .unset] [])) _
            refine XS.iconst X173.here hx rfl (hb hby at_55) ?_
            exact kt
          refine own_arm hgo348 ?_
          exact own_armEnd X173 N188 e173 (by rw [hv79.trans (if_pos hc48_78)])
        · have hgo349 : ∀ t, Steps p.tables e below (T173.setTop (mkF m 56 #[.val (.int p0), .val (.int p1), .val (.int v1), .val (.int v2), .val (.ref b101), .unset] [(.int (1 : Int32))])) t → Steps p.tables e below (T173.setTop (mkF m 48 #[.val (.int p0), .val (.int p1), .val (.int v1), .val (.int v2), .val (.ref b101), .unset] [(.int (((33893 : Int32) >>> (((v1 * (4 : Int32)) + v2) &&& 31)) &&& (1 : Int32)))])) t := by
            intro t kt
            show Steps p.tables e below (T173.setTop (mkF m 48 #[.val (.int p0), .val (.int p1), .val (.int v1), .val (.int v2), .val (.ref b101), .unset] [(.int (((33893 : Int32) >>> (((v1 * (4 : Int32)) + v2) &&& 31)) &&& (1 : Int32)))])) _
            refine XS.ifNo X173.here hx rfl (hb hby at_48) rfl ((if0 _ _).trans (feq hc48_78).1) ?_
            show Steps p.tables e below (T173.setTop (mkF m 51 #[.val (.int p0), .val (.int p1), .val (.int v1), .val (.int v2), .val (.ref b101), .unset] [])) _
            refine XS.iconst X173.here hx rfl (hb hby at_51) ?_
            show Steps p.tables e below (T173.setTop (mkF m 52 #[.val (.int p0), .val (.int p1), .val (.int v1), .val (.int v2), .val (.ref b101), .unset] [(.int (1 : Int32))])) _
            refine XS.goto X173.here hx rfl (pc0 := 52) (pc' := 56) rfl (hb hby at_52) (by decide) (by decide) ?_
            exact kt
          refine own_arm hgo349 ?_
          exact own_armEnd X173 N188 e173 (by rw [hv79.trans (if_neg hc48_78)]))
      have hin61_351 : ¬ v1 < 0 ∧ v1.toNatClampNeg < 4 := by rw [hs38_66]; decide
      have hin65_352 : ¬ v2 < 0 ∧ v2.toNatClampNeg < 4 := by rw [hs40_77]; decide
      obtain ⟨cq353, kq353, q353a, q353b, q353c⟩ := isOf hZ e350 F181
      obtain ⟨_, _, ⟨T353, L353, k353, n353⟩, -, X353, ⟨Lc353, hQ353, l353, y353, z353⟩, st353⟩ := X350.virtualBack hx (y := (⟨"com/example/swapgraph/swapgraph/Network$Shape", "within", "(Lcom/example/swapgraph/swapgraph/Network$Shape;)Z"⟩ : MethodName)) (z := (⟨"com/example/swapgraph/swapgraph/Network$Shape", "within", "(Lcom/example/swapgraph/swapgraph/Network$Shape;)Z"⟩ : MethodName)) hown (mvT hZ (hw _ (List.mem_of_getElem? (i := 13) rfl))) (mvT hZ (hw _ (List.mem_of_getElem? (i := 14) rfl))) (notFace_of_selects (args := #[]) (mvT hZ (hw _ (List.mem_of_getElem? (i := 16) rfl)))) (mvT hZ (hw _ (List.mem_of_getElem? (i := 16) rfl))) (mvT hZ (hw _ (List.mem_of_getElem? (i := 15) rfl))) (by decide) (backOf (W := 0) (rm1 l Z a0 hw [] u_Network_Shape_GENERAL u_Network_Shape_TREE u_Network_Shape_TREE u_Network_Shape_GENERAL h173 n0 Z186 F178 F180) hZ (hw _ (List.mem_of_getElem? (i := 17) rfl)) (hw _ (List.mem_of_getElem? (i := 3) rfl)) (by decide) (by decide)) q353a q353c (g := (mkF m 66 #[.val (.int p0), .val (.int p1), .val (.int v1), .val (.int v2), .val (.ref b101), .val (.int v79)] [(.ref u_Network_Shape_TREE), (.ref u_Network_Shape_GENERAL)])) rfl (by rw [hml]; rfl) (Steps.refl _) (argsL := [(.ref u_Network_Shape_TREE)]) (rest := []) (lenOf pd1 rfl) rfl (by show 2 * 0 + _ ≤ _; exact Nat.le_of_eq rfl) (hb hby at_66) (fun _ _ => ⟨rfl, e350, (by decide : 1 + 0 ≤ _), (by decide : 4 + 0 ≤ _)⟩)
      dsimp only [Pt.U, Pt.locs, Pt.cells, Pt.slots] at X353 l353 y353 z353 st353 hQ353
      subst l353 y353 z353
      obtain ⟨rfl, N353q, e353⟩ := hQ353
      have N353 := Fr.app N350 N353q
      obtain ⟨v81, hv81⟩ : ∃ z : Int32, z = (if (own_r1 u_Network_Shape_GENERAL u_Network_Shape_TREE u_Network_Shape_TREE u_Network_Shape_GENERAL) = v79 then (1 : Int32) else (0 : Int32)) := ⟨_, rfl⟩
      obtain ⟨T356, lc356, X356, N356, e356, st356⟩ := own_mrg (n0 := n0) (h := h173) (g := (mkF m 71 #[.val (.int p0), .val (.int p1), .val (.int v1), .val (.int v2), .val (.ref b101), .val (.int v79)] [(.int v79), (.int (own_r1 u_Network_Shape_GENERAL u_Network_Shape_TREE u_Network_Shape_TREE u_Network_Shape_GENERAL))])) (g' := (mkF m 79 #[.val (.int p0), .val (.int p1), .val (.int v1), .val (.int v2), .val (.ref b101), .val (.int v79)] [(.int v81)])) X353 (by
        by_cases hc71_80 : (own_r1 u_Network_Shape_GENERAL u_Network_Shape_TREE u_Network_Shape_TREE u_Network_Shape_GENERAL) = v79
        · have hgo354 : ∀ t, Steps p.tables e below (T353.setTop (mkF m 79 #[.val (.int p0), .val (.int p1), .val (.int v1), .val (.int v2), .val (.ref b101), .val (.int v79)] [(.int (1 : Int32))])) t → Steps p.tables e below (T353.setTop (mkF m 71 #[.val (.int p0), .val (.int p1), .val (.int v1), .val (.int v2), .val (.ref b101), .val (.int v79)] [(.int v79), (.int (own_r1 u_Network_Shape_GENERAL u_Network_Shape_TREE u_Network_Shape_TREE u_Network_Shape_GENERAL))])) t := by
            intro t kt
            show Steps p.tables e below (T353.setTop (mkF m 71 #[.val (.int p0), .val (.int p1), .val (.int v1), .val (.int v2), .val (.ref b101), .val (.int v79)] [(.int v79), (.int (own_r1 u_Network_Shape_GENERAL u_Network_Shape_TREE u_Network_Shape_TREE u_Network_Shape_GENERAL))])) _
            refine XS.icmpNo X353.here hx rfl (hb hby at_71) rfl (teq hc71_80).2 ?_
            show Steps p.tables e below (T353.setTop (mkF m 74 #[.val (.int p0), .val (.int p1), .val (.int v1), .val (.int v2), .val (.ref b101), .val (.int v79)] [])) _
            refine XS.iconst X353.here hx rfl (hb hby at_74) ?_
            show Steps p.tables e below (T353.setTop (mkF m 75 #[.val (.int p0), .val (.int p1), .val (.int v1), .val (.int v2), .val (.ref b101), .val (.int v79)] [(.int (1 : Int32))])) _
            refine XS.goto X353.here hx rfl (pc0 := 75) (pc' := 79) rfl (hb hby at_75) (by decide) (by decide) ?_
            exact kt
          refine own_arm hgo354 ?_
          exact own_armEnd X353 N353 e353 (by rw [hv81.trans (if_pos hc71_80)])
        · have hgo355 : ∀ t, Steps p.tables e below (T353.setTop (mkF m 79 #[.val (.int p0), .val (.int p1), .val (.int v1), .val (.int v2), .val (.ref b101), .val (.int v79)] [(.int (0 : Int32))])) t → Steps p.tables e below (T353.setTop (mkF m 71 #[.val (.int p0), .val (.int p1), .val (.int v1), .val (.int v2), .val (.ref b101), .val (.int v79)] [(.int v79), (.int (own_r1 u_Network_Shape_GENERAL u_Network_Shape_TREE u_Network_Shape_TREE u_Network_Shape_GENERAL))])) t := by
            intro t kt
            show Steps p.tables e below (T353.setTop (mkF m 71 #[.val (.int p0), .val (.int p1), .val (.int v1), .val (.int v2), .val (.ref b101), .val (.int v79)] [(.int v79), (.int (own_r1 u_Network_Shape_GENERAL u_Network_Shape_TREE u_Network_Shape_TREE u_Network_Shape_GENERAL))])) _
            refine XS.icmpYes X353.here hx rfl (pc0 := 71) (pc' := 78) rfl (hb hby at_71) rfl (feq hc71_80).2 (by decide) (by decide) ?_
            show Steps p.tables e below (T353.setTop (mkF m 78 #[.val (.int p0), .val (.int p1), .val (.int v1), .val (.int v2), .val (.ref b101), .val (.int v79)] [])) _
            refine XS.iconst X353.here hx rfl (hb hby at_78) ?_
            exact kt
          refine own_arm hgo355 ?_
          exact own_armEnd X353 N353 e353 (by rw [hv81.trans (if_neg hc71_80)]))
      have hgo357 : ∀ t, Steps p.tables e below (T356.setTop (mkF m 79 #[.val (.int p0), .val (.int p1), .val (.int v1), .val (.int v2), .val (.ref b101), .val (.int v79)] [(.int v81)])) t → Steps p.tables e below (T173.setTop (mkF m 40 #[.val (.int p0), .val (.int p1), .val (.int v1), .val (.int v2), .val (.ref b101), .unset] [(.int (33893 : Int32))])) t := by
        intro t kt
        show Steps p.tables e below (T173.setTop (mkF m 40 #[.val (.int p0), .val (.int p1), .val (.int v1), .val (.int v2), .val (.ref b101), .unset] [(.int (33893 : Int32))])) _
        refine XS.iloadN X173.here hx rfl (hb hby at_40) rfl ?_
        show Steps p.tables e below (T173.setTop (mkF m 41 #[.val (.int p0), .val (.int p1), .val (.int v1), .val (.int v2), .val (.ref b101), .unset] [(.int v1), (.int (33893 : Int32))])) _
        refine XS.iconst X173.here hx rfl (hb hby at_41) ?_
        show Steps p.tables e below (T173.setTop (mkF m 42 #[.val (.int p0), .val (.int p1), .val (.int v1), .val (.int v2), .val (.ref b101), .unset] [(.int (4 : Int32)), (.int v1), (.int (33893 : Int32))])) _
        refine XS.imul X173.here hx rfl (hb hby at_42) rfl ?_
        show Steps p.tables e below (T173.setTop (mkF m 43 #[.val (.int p0), .val (.int p1), .val (.int v1), .val (.int v2), .val (.ref b101), .unset] [(.int (v1 * (4 : Int32))), (.int (33893 : Int32))])) _
        refine XS.iloadN X173.here hx rfl (hb hby at_43) rfl ?_
        show Steps p.tables e below (T173.setTop (mkF m 44 #[.val (.int p0), .val (.int p1), .val (.int v1), .val (.int v2), .val (.ref b101), .unset] [(.int v2), (.int (v1 * (4 : Int32))), (.int (33893 : Int32))])) _
        refine XS.iadd X173.here hx rfl (hb hby at_44) rfl ?_
        show Steps p.tables e below (T173.setTop (mkF m 45 #[.val (.int p0), .val (.int p1), .val (.int v1), .val (.int v2), .val (.ref b101), .unset] [(.int ((v1 * (4 : Int32)) + v2)), (.int (33893 : Int32))])) _
        refine XS.ishr X173.here hx rfl (hb hby at_45) rfl ?_
        show Steps p.tables e below (T173.setTop (mkF m 46 #[.val (.int p0), .val (.int p1), .val (.int v1), .val (.int v2), .val (.ref b101), .unset] [(.int ((33893 : Int32) >>> (((v1 * (4 : Int32)) + v2) &&& 31)))])) _
        refine XS.iconst X173.here hx rfl (hb hby at_46) ?_
        show Steps p.tables e below (T173.setTop (mkF m 47 #[.val (.int p0), .val (.int p1), .val (.int v1), .val (.int v2), .val (.ref b101), .unset] [(.int (1 : Int32)), (.int ((33893 : Int32) >>> (((v1 * (4 : Int32)) + v2) &&& 31)))])) _
        refine XS.iand X173.here hx rfl (hb hby at_47) rfl ?_
        show Steps p.tables e below (T173.setTop (mkF m 48 #[.val (.int p0), .val (.int p1), .val (.int v1), .val (.int v2), .val (.ref b101), .unset] [(.int (((33893 : Int32) >>> (((v1 * (4 : Int32)) + v2) &&& 31)) &&& (1 : Int32)))])) _
        refine st350 _ ?_
        show Steps p.tables e below (T350.setTop (mkF m 56 #[.val (.int p0), .val (.int p1), .val (.int v1), .val (.int v2), .val (.ref b101), .unset] [(.int v79)])) _
        refine XS.istore X350.here hx rfl (hb hby at_56) rfl (l' := #[.val (.int p0), .val (.int p1), .val (.int v1), .val (.int v2), .val (.ref b101), .val (.int v79)]) rfl ?_
        show Steps p.tables e below (T350.setTop (mkF m 58 #[.val (.int p0), .val (.int p1), .val (.int v1), .val (.int v2), .val (.ref b101), .val (.int v79)] [])) _
        refine XS.aload X350.here hx rfl (hb hby at_58) rfl rfl ?_
        show Steps p.tables e below (T350.setTop (mkF m 60 #[.val (.int p0), .val (.int p1), .val (.int v1), .val (.int v2), .val (.ref b101), .val (.int v79)] [(.ref b101)])) _
        refine XS.iloadN X350.here hx rfl (hb hby at_60) rfl ?_
        show Steps p.tables e below (T350.setTop (mkF m 61 #[.val (.int p0), .val (.int p1), .val (.int v1), .val (.int v2), .val (.ref b101), .val (.int v79)] [(.int v1), (.ref b101)])) _
        refine own_ldR X350 hx hZ e350 B173n (j := v1) (v := (.ref u_Network_Shape_GENERAL)) hin61_351 (by rw [hs38_66]; rfl) (g := (mkF m 61 #[.val (.int p0), .val (.int p1), .val (.int v1), .val (.int v2), .val (.ref b101), .val (.int v79)] [(.int v1), (.ref b101)])) rfl rfl (hb hby at_61) _ ?_
        show Steps p.tables e below (T350.setTop (mkF m 62 #[.val (.int p0), .val (.int p1), .val (.int v1), .val (.int v2), .val (.ref b101), .val (.int v79)] [(.ref u_Network_Shape_GENERAL)])) _
        refine XS.aload X350.here hx rfl (hb hby at_62) rfl rfl ?_
        show Steps p.tables e below (T350.setTop (mkF m 64 #[.val (.int p0), .val (.int p1), .val (.int v1), .val (.int v2), .val (.ref b101), .val (.int v79)] [(.ref b101), (.ref u_Network_Shape_GENERAL)])) _
        refine XS.iloadN X350.here hx rfl (hb hby at_64) rfl ?_
        show Steps p.tables e below (T350.setTop (mkF m 65 #[.val (.int p0), .val (.int p1), .val (.int v1), .val (.int v2), .val (.ref b101), .val (.int v79)] [(.int v2), (.ref b101), (.ref u_Network_Shape_GENERAL)])) _
        refine own_ldR X350 hx hZ e350 B173n (j := v2) (v := (.ref u_Network_Shape_TREE)) hin65_352 (by rw [hs40_77]; rfl) (g := (mkF m 65 #[.val (.int p0), .val (.int p1), .val (.int v1), .val (.int v2), .val (.ref b101), .val (.int v79)] [(.int v2), (.ref b101), (.ref u_Network_Shape_GENERAL)])) rfl rfl (hb hby at_65) _ ?_
        show Steps p.tables e below (T350.setTop (mkF m 66 #[.val (.int p0), .val (.int p1), .val (.int v1), .val (.int v2), .val (.ref b101), .val (.int v79)] [(.ref u_Network_Shape_TREE), (.ref u_Network_Shape_GENERAL)])) _
        refine st353.trans ?_
        show Steps p.tables e below (T353.setTop (mkF m 69 #[.val (.int p0), .val (.int p1), .val (.int v1), .val (.int v2), .val (.ref b101), .val (.int v79)] [(.int (own_r1 u_Network_Shape_GENERAL u_Network_Shape_TREE u_Network_Shape_TREE u_Network_Shape_GENERAL))])) _
        refine XS.iload X353.here hx rfl (hb hby at_69) rfl ?_
        show Steps p.tables e below (T353.setTop (mkF m 71 #[.val (.int p0), .val (.int p1), .val (.int v1), .val (.int v2), .val (.ref b101), .val (.int v79)] [(.int v79), (.int (own_r1 u_Network_Shape_GENERAL u_Network_Shape_TREE u_Network_Shape_TREE u_Network_Shape_GENERAL))])) _
        refine st356 _ ?_
        exact kt
      refine own_go hgo357 ?_
      have hz358 : v81 = 1 := own_leaf14 (p0 := p0) (p1 := p1) (u_Network_Shape_PATH := u_Network_Shape_PATH) (u_Network_Shape_STAR := u_Network_Shape_STAR) (u_Network_Shape_TREE := u_Network_Shape_TREE) (u_Network_Shape_GENERAL := u_Network_Shape_GENERAL) hv1 hv2 hv79 hv81 hs38_3 hs38_24 hs38_45 hs38_66 hs40_67 hs40_72 hs40_77 hne01 hne02 hne03 hne10 hne12 hne13 hne20 hne21 hne23 hne30 hne31 hne32
      exact own_retZ X356 hx Bd.returns Bd.notSynchronized (hb hby at_79) (by decide) (by decide) (Or.inr hz358) ⟨by rw [hz358], N356⟩
    · have hs40_82 : v2 = (3 : Int32) := own_is3 hv2 hs40_67 hs40_72 hs40_77
      obtain ⟨v84, hv84⟩ : ∃ z : Int32, z = (if (((33893 : Int32) >>> (((v1 * (4 : Int32)) + v2) &&& 31)) &&& (1 : Int32)) = (0 : Int32) then (0 : Int32) else (1 : Int32)) := ⟨_, rfl⟩
      obtain ⟨T361, lc361, X361, N361, e361, st361⟩ := own_mrg (n0 := n0) (h := h173) (g := (mkF m 48 #[.val (.int p0), .val (.int p1), .val (.int v1), .val (.int v2), .val (.ref b101), .unset] [(.int (((33893 : Int32) >>> (((v1 * (4 : Int32)) + v2) &&& 31)) &&& (1 : Int32)))])) (g' := (mkF m 56 #[.val (.int p0), .val (.int p1), .val (.int v1), .val (.int v2), .val (.ref b101), .unset] [(.int v84)])) X173 (by
        by_cases hc48_83 : (((33893 : Int32) >>> (((v1 * (4 : Int32)) + v2) &&& 31)) &&& (1 : Int32)) = (0 : Int32)
        · have hgo359 : ∀ t, Steps p.tables e below (T173.setTop (mkF m 56 #[.val (.int p0), .val (.int p1), .val (.int v1), .val (.int v2), .val (.ref b101), .unset] [(.int (0 : Int32))])) t → Steps p.tables e below (T173.setTop (mkF m 48 #[.val (.int p0), .val (.int p1), .val (.int v1), .val (.int v2), .val (.ref b101), .unset] [(.int (((33893 : Int32) >>> (((v1 * (4 : Int32)) + v2) &&& 31)) &&& (1 : Int32)))])) t := by
            intro t kt
            show Steps p.tables e below (T173.setTop (mkF m 48 #[.val (.int p0), .val (.int p1), .val (.int v1), .val (.int v2), .val (.ref b101), .unset] [(.int (((33893 : Int32) >>> (((v1 * (4 : Int32)) + v2) &&& 31)) &&& (1 : Int32)))])) _
            refine XS.ifYes X173.here hx rfl (pc0 := 48) (pc' := 55) rfl (hb hby at_48) rfl ((if0 _ _).trans (teq hc48_83).1) (by decide) (by decide) ?_
            show Steps p.tables e below (T173.setTop (mkF m 55 #[.val (.int p0), .val (.int p1), .val (.int v1), .val (.int v2), .val (.ref b101), .unset] [])) _
            refine XS.iconst X173.here hx rfl (hb hby at_55) ?_
            exact kt
          refine own_arm hgo359 ?_
          exact own_armEnd X173 N188 e173 (by rw [hv84.trans (if_pos hc48_83)])
        · have hgo360 : ∀ t, Steps p.tables e below (T173.setTop (mkF m 56 #[.val (.int p0), .val (.int p1), .val (.int v1), .val (.int v2), .val (.ref b101), .unset] [(.int (1 : Int32))])) t → Steps p.tables e below (T173.setTop (mkF m 48 #[.val (.int p0), .val (.int p1), .val (.int v1), .val (.int v2), .val (.ref b101), .unset] [(.int (((33893 : Int32) >>> (((v1 * (4 : Int32)) + v2) &&& 31)) &&& (1 : Int32)))])) t := by
            intro t kt
            show Steps p.tables e below (T173.setTop (mkF m 48 #[.val (.int p0), .val (.int p1), .val (.int v1), .val (.int v2), .val (.ref b101), .unset] [(.int (((33893 : Int32) >>> (((v1 * (4 : Int32)) + v2) &&& 31)) &&& (1 : Int32)))])) _
            refine XS.ifNo X173.here hx rfl (hb hby at_48) rfl ((if0 _ _).trans (feq hc48_83).1) ?_
            show Steps p.tables e below (T173.setTop (mkF m 51 #[.val (.int p0), .val (.int p1), .val (.int v1), .val (.int v2), .val (.ref b101), .unset] [])) _
            refine XS.iconst X173.here hx rfl (hb hby at_51) ?_
            show Steps p.tables e below (T173.setTop (mkF m 52 #[.val (.int p0), .val (.int p1), .val (.int v1), .val (.int v2), .val (.ref b101), .unset] [(.int (1 : Int32))])) _
            refine XS.goto X173.here hx rfl (pc0 := 52) (pc' := 56) rfl (hb hby at_52) (by decide) (by decide) ?_
            exact kt
          refine own_arm hgo360 ?_
          exact own_armEnd X173 N188 e173 (by rw [hv84.trans (if_neg hc48_83)]))
      have hin61_362 : ¬ v1 < 0 ∧ v1.toNatClampNeg < 4 := by rw [hs38_66]; decide
      have hin65_363 : ¬ v2 < 0 ∧ v2.toNatClampNeg < 4 := by rw [hs40_82]; decide
      obtain ⟨cq364, kq364, q364a, q364b, q364c⟩ := isOf hZ e361 F181
      obtain ⟨_, _, ⟨T364, L364, k364, n364⟩, -, X364, ⟨Lc364, hQ364, l364, y364, z364⟩, st364⟩ := X361.virtualBack hx (y := (⟨"com/example/swapgraph/swapgraph/Network$Shape", "within", "(Lcom/example/swapgraph/swapgraph/Network$Shape;)Z"⟩ : MethodName)) (z := (⟨"com/example/swapgraph/swapgraph/Network$Shape", "within", "(Lcom/example/swapgraph/swapgraph/Network$Shape;)Z"⟩ : MethodName)) hown (mvT hZ (hw _ (List.mem_of_getElem? (i := 13) rfl))) (mvT hZ (hw _ (List.mem_of_getElem? (i := 14) rfl))) (notFace_of_selects (args := #[]) (mvT hZ (hw _ (List.mem_of_getElem? (i := 16) rfl)))) (mvT hZ (hw _ (List.mem_of_getElem? (i := 16) rfl))) (mvT hZ (hw _ (List.mem_of_getElem? (i := 15) rfl))) (by decide) (backOf (W := 0) (rm1 l Z a0 hw [] u_Network_Shape_GENERAL u_Network_Shape_GENERAL u_Network_Shape_TREE u_Network_Shape_GENERAL h173 n0 Z186 F178 F180) hZ (hw _ (List.mem_of_getElem? (i := 17) rfl)) (hw _ (List.mem_of_getElem? (i := 3) rfl)) (by decide) (by decide)) q364a q364c (g := (mkF m 66 #[.val (.int p0), .val (.int p1), .val (.int v1), .val (.int v2), .val (.ref b101), .val (.int v84)] [(.ref u_Network_Shape_GENERAL), (.ref u_Network_Shape_GENERAL)])) rfl (by rw [hml]; rfl) (Steps.refl _) (argsL := [(.ref u_Network_Shape_GENERAL)]) (rest := []) (lenOf pd1 rfl) rfl (by show 2 * 0 + _ ≤ _; exact Nat.le_of_eq rfl) (hb hby at_66) (fun _ _ => ⟨rfl, e361, (by decide : 1 + 0 ≤ _), (by decide : 4 + 0 ≤ _)⟩)
      dsimp only [Pt.U, Pt.locs, Pt.cells, Pt.slots] at X364 l364 y364 z364 st364 hQ364
      subst l364 y364 z364
      obtain ⟨rfl, N364q, e364⟩ := hQ364
      have N364 := Fr.app N361 N364q
      obtain ⟨v86, hv86⟩ : ∃ z : Int32, z = (if (own_r1 u_Network_Shape_GENERAL u_Network_Shape_GENERAL u_Network_Shape_TREE u_Network_Shape_GENERAL) = v84 then (1 : Int32) else (0 : Int32)) := ⟨_, rfl⟩
      obtain ⟨T367, lc367, X367, N367, e367, st367⟩ := own_mrg (n0 := n0) (h := h173) (g := (mkF m 71 #[.val (.int p0), .val (.int p1), .val (.int v1), .val (.int v2), .val (.ref b101), .val (.int v84)] [(.int v84), (.int (own_r1 u_Network_Shape_GENERAL u_Network_Shape_GENERAL u_Network_Shape_TREE u_Network_Shape_GENERAL))])) (g' := (mkF m 79 #[.val (.int p0), .val (.int p1), .val (.int v1), .val (.int v2), .val (.ref b101), .val (.int v84)] [(.int v86)])) X364 (by
        by_cases hc71_85 : (own_r1 u_Network_Shape_GENERAL u_Network_Shape_GENERAL u_Network_Shape_TREE u_Network_Shape_GENERAL) = v84
        · have hgo365 : ∀ t, Steps p.tables e below (T364.setTop (mkF m 79 #[.val (.int p0), .val (.int p1), .val (.int v1), .val (.int v2), .val (.ref b101), .val (.int v84)] [(.int (1 : Int32))])) t → Steps p.tables e below (T364.setTop (mkF m 71 #[.val (.int p0), .val (.int p1), .val (.int v1), .val (.int v2), .val (.ref b101), .val (.int v84)] [(.int v84), (.int (own_r1 u_Network_Shape_GENERAL u_Network_Shape_GENERAL u_Network_Shape_TREE u_Network_Shape_GENERAL))])) t := by
            intro t kt
            show Steps p.tables e below (T364.setTop (mkF m 71 #[.val (.int p0), .val (.int p1), .val (.int v1), .val (.int v2), .val (.ref b101), .val (.int v84)] [(.int v84), (.int (own_r1 u_Network_Shape_GENERAL u_Network_Shape_GENERAL u_Network_Shape_TREE u_Network_Shape_GENERAL))])) _
            refine XS.icmpNo X364.here hx rfl (hb hby at_71) rfl (teq hc71_85).2 ?_
            show Steps p.tables e below (T364.setTop (mkF m 74 #[.val (.int p0), .val (.int p1), .val (.int v1), .val (.int v2), .val (.ref b101), .val (.int v84)] [])) _
            refine XS.iconst X364.here hx rfl (hb hby at_74) ?_
            show Steps p.tables e below (T364.setTop (mkF m 75 #[.val (.int p0), .val (.int p1), .val (.int v1), .val (.int v2), .val (.ref b101), .val (.int v84)] [(.int (1 : Int32))])) _
            refine XS.goto X364.here hx rfl (pc0 := 75) (pc' := 79) rfl (hb hby at_75) (by decide) (by decide) ?_
            exact kt
          refine own_arm hgo365 ?_
          exact own_armEnd X364 N364 e364 (by rw [hv86.trans (if_pos hc71_85)])
        · have hgo366 : ∀ t, Steps p.tables e below (T364.setTop (mkF m 79 #[.val (.int p0), .val (.int p1), .val (.int v1), .val (.int v2), .val (.ref b101), .val (.int v84)] [(.int (0 : Int32))])) t → Steps p.tables e below (T364.setTop (mkF m 71 #[.val (.int p0), .val (.int p1), .val (.int v1), .val (.int v2), .val (.ref b101), .val (.int v84)] [(.int v84), (.int (own_r1 u_Network_Shape_GENERAL u_Network_Shape_GENERAL u_Network_Shape_TREE u_Network_Shape_GENERAL))])) t := by
            intro t kt
            show Steps p.tables e below (T364.setTop (mkF m 71 #[.val (.int p0), .val (.int p1), .val (.int v1), .val (.int v2), .val (.ref b101), .val (.int v84)] [(.int v84), (.int (own_r1 u_Network_Shape_GENERAL u_Network_Shape_GENERAL u_Network_Shape_TREE u_Network_Shape_GENERAL))])) _
            refine XS.icmpYes X364.here hx rfl (pc0 := 71) (pc' := 78) rfl (hb hby at_71) rfl (feq hc71_85).2 (by decide) (by decide) ?_
            show Steps p.tables e below (T364.setTop (mkF m 78 #[.val (.int p0), .val (.int p1), .val (.int v1), .val (.int v2), .val (.ref b101), .val (.int v84)] [])) _
            refine XS.iconst X364.here hx rfl (hb hby at_78) ?_
            exact kt
          refine own_arm hgo366 ?_
          exact own_armEnd X364 N364 e364 (by rw [hv86.trans (if_neg hc71_85)]))
      have hgo368 : ∀ t, Steps p.tables e below (T367.setTop (mkF m 79 #[.val (.int p0), .val (.int p1), .val (.int v1), .val (.int v2), .val (.ref b101), .val (.int v84)] [(.int v86)])) t → Steps p.tables e below (T173.setTop (mkF m 40 #[.val (.int p0), .val (.int p1), .val (.int v1), .val (.int v2), .val (.ref b101), .unset] [(.int (33893 : Int32))])) t := by
        intro t kt
        show Steps p.tables e below (T173.setTop (mkF m 40 #[.val (.int p0), .val (.int p1), .val (.int v1), .val (.int v2), .val (.ref b101), .unset] [(.int (33893 : Int32))])) _
        refine XS.iloadN X173.here hx rfl (hb hby at_40) rfl ?_
        show Steps p.tables e below (T173.setTop (mkF m 41 #[.val (.int p0), .val (.int p1), .val (.int v1), .val (.int v2), .val (.ref b101), .unset] [(.int v1), (.int (33893 : Int32))])) _
        refine XS.iconst X173.here hx rfl (hb hby at_41) ?_
        show Steps p.tables e below (T173.setTop (mkF m 42 #[.val (.int p0), .val (.int p1), .val (.int v1), .val (.int v2), .val (.ref b101), .unset] [(.int (4 : Int32)), (.int v1), (.int (33893 : Int32))])) _
        refine XS.imul X173.here hx rfl (hb hby at_42) rfl ?_
        show Steps p.tables e below (T173.setTop (mkF m 43 #[.val (.int p0), .val (.int p1), .val (.int v1), .val (.int v2), .val (.ref b101), .unset] [(.int (v1 * (4 : Int32))), (.int (33893 : Int32))])) _
        refine XS.iloadN X173.here hx rfl (hb hby at_43) rfl ?_
        show Steps p.tables e below (T173.setTop (mkF m 44 #[.val (.int p0), .val (.int p1), .val (.int v1), .val (.int v2), .val (.ref b101), .unset] [(.int v2), (.int (v1 * (4 : Int32))), (.int (33893 : Int32))])) _
        refine XS.iadd X173.here hx rfl (hb hby at_44) rfl ?_
        show Steps p.tables e below (T173.setTop (mkF m 45 #[.val (.int p0), .val (.int p1), .val (.int v1), .val (.int v2), .val (.ref b101), .unset] [(.int ((v1 * (4 : Int32)) + v2)), (.int (33893 : Int32))])) _
        refine XS.ishr X173.here hx rfl (hb hby at_45) rfl ?_
        show Steps p.tables e below (T173.setTop (mkF m 46 #[.val (.int p0), .val (.int p1), .val (.int v1), .val (.int v2), .val (.ref b101), .unset] [(.int ((33893 : Int32) >>> (((v1 * (4 : Int32)) + v2) &&& 31)))])) _
        refine XS.iconst X173.here hx rfl (hb hby at_46) ?_
        show Steps p.tables e below (T173.setTop (mkF m 47 #[.val (.int p0), .val (.int p1), .val (.int v1), .val (.int v2), .val (.ref b101), .unset] [(.int (1 : Int32)), (.int ((33893 : Int32) >>> (((v1 * (4 : Int32)) + v2) &&& 31)))])) _
        refine XS.iand X173.here hx rfl (hb hby at_47) rfl ?_
        show Steps p.tables e below (T173.setTop (mkF m 48 #[.val (.int p0), .val (.int p1), .val (.int v1), .val (.int v2), .val (.ref b101), .unset] [(.int (((33893 : Int32) >>> (((v1 * (4 : Int32)) + v2) &&& 31)) &&& (1 : Int32)))])) _
        refine st361 _ ?_
        show Steps p.tables e below (T361.setTop (mkF m 56 #[.val (.int p0), .val (.int p1), .val (.int v1), .val (.int v2), .val (.ref b101), .unset] [(.int v84)])) _
        refine XS.istore X361.here hx rfl (hb hby at_56) rfl (l' := #[.val (.int p0), .val (.int p1), .val (.int v1), .val (.int v2), .val (.ref b101), .val (.int v84)]) rfl ?_
        show Steps p.tables e below (T361.setTop (mkF m 58 #[.val (.int p0), .val (.int p1), .val (.int v1), .val (.int v2), .val (.ref b101), .val (.int v84)] [])) _
        refine XS.aload X361.here hx rfl (hb hby at_58) rfl rfl ?_
        show Steps p.tables e below (T361.setTop (mkF m 60 #[.val (.int p0), .val (.int p1), .val (.int v1), .val (.int v2), .val (.ref b101), .val (.int v84)] [(.ref b101)])) _
        refine XS.iloadN X361.here hx rfl (hb hby at_60) rfl ?_
        show Steps p.tables e below (T361.setTop (mkF m 61 #[.val (.int p0), .val (.int p1), .val (.int v1), .val (.int v2), .val (.ref b101), .val (.int v84)] [(.int v1), (.ref b101)])) _
        refine own_ldR X361 hx hZ e361 B173n (j := v1) (v := (.ref u_Network_Shape_GENERAL)) hin61_362 (by rw [hs38_66]; rfl) (g := (mkF m 61 #[.val (.int p0), .val (.int p1), .val (.int v1), .val (.int v2), .val (.ref b101), .val (.int v84)] [(.int v1), (.ref b101)])) rfl rfl (hb hby at_61) _ ?_
        show Steps p.tables e below (T361.setTop (mkF m 62 #[.val (.int p0), .val (.int p1), .val (.int v1), .val (.int v2), .val (.ref b101), .val (.int v84)] [(.ref u_Network_Shape_GENERAL)])) _
        refine XS.aload X361.here hx rfl (hb hby at_62) rfl rfl ?_
        show Steps p.tables e below (T361.setTop (mkF m 64 #[.val (.int p0), .val (.int p1), .val (.int v1), .val (.int v2), .val (.ref b101), .val (.int v84)] [(.ref b101), (.ref u_Network_Shape_GENERAL)])) _
        refine XS.iloadN X361.here hx rfl (hb hby at_64) rfl ?_
        show Steps p.tables e below (T361.setTop (mkF m 65 #[.val (.int p0), .val (.int p1), .val (.int v1), .val (.int v2), .val (.ref b101), .val (.int v84)] [(.int v2), (.ref b101), (.ref u_Network_Shape_GENERAL)])) _
        refine own_ldR X361 hx hZ e361 B173n (j := v2) (v := (.ref u_Network_Shape_GENERAL)) hin65_363 (by rw [hs40_82]; rfl) (g := (mkF m 65 #[.val (.int p0), .val (.int p1), .val (.int v1), .val (.int v2), .val (.ref b101), .val (.int v84)] [(.int v2), (.ref b101), (.ref u_Network_Shape_GENERAL)])) rfl rfl (hb hby at_65) _ ?_
        show Steps p.tables e below (T361.setTop (mkF m 66 #[.val (.int p0), .val (.int p1), .val (.int v1), .val (.int v2), .val (.ref b101), .val (.int v84)] [(.ref u_Network_Shape_GENERAL), (.ref u_Network_Shape_GENERAL)])) _
        refine st364.trans ?_
        show Steps p.tables e below (T364.setTop (mkF m 69 #[.val (.int p0), .val (.int p1), .val (.int v1), .val (.int v2), .val (.ref b101), .val (.int v84)] [(.int (own_r1 u_Network_Shape_GENERAL u_Network_Shape_GENERAL u_Network_Shape_TREE u_Network_Shape_GENERAL))])) _
        refine XS.iload X364.here hx rfl (hb hby at_69) rfl ?_
        show Steps p.tables e below (T364.setTop (mkF m 71 #[.val (.int p0), .val (.int p1), .val (.int v1), .val (.int v2), .val (.ref b101), .val (.int v84)] [(.int v84), (.int (own_r1 u_Network_Shape_GENERAL u_Network_Shape_GENERAL u_Network_Shape_TREE u_Network_Shape_GENERAL))])) _
        refine st367 _ ?_
        exact kt
      refine own_go hgo368 ?_
      have hz369 : v86 = 1 := own_leaf15 (p0 := p0) (p1 := p1) (u_Network_Shape_PATH := u_Network_Shape_PATH) (u_Network_Shape_STAR := u_Network_Shape_STAR) (u_Network_Shape_TREE := u_Network_Shape_TREE) (u_Network_Shape_GENERAL := u_Network_Shape_GENERAL) hv1 hv2 hv84 hv86 hs38_3 hs38_24 hs38_45 hs38_66 hs40_67 hs40_72 hs40_77 hs40_82 hne01 hne02 hne03 hne10 hne12 hne13 hne20 hne21 hne23 hne30 hne31 hne32
      exact own_retZ X367 hx Bd.returns Bd.notSynchronized (hb hby at_79) (by decide) (by decide) (Or.inr hz369) ⟨by rw [hz369], N367⟩
set_option maxRecDepth 65536 in
set_option maxHeartbeats 40000000 in
theorem comes_1 {Post : Tables → Env → Array Value → State → Outcome → State → Prop} (hpost : ∀ tb e args s v u, (limb_1_1.after args s (.returned v) u = true ∧ limb_1_2.after args s (.returned v) u = true ∧ True) → FrameEnd s (.returned v) u (Jvm.fieldLocs frame_1_writes args s ++ Jvm.arrayLocs frame_1_arrays args s ++ Jvm.staticLocs frame_1_statics s) 16 128 → Post tb e args s (.returned v) u) :
    ArmFor flags0 classFile x code maxLocals ret World_1 tables_1 room_1 Calls_1 rest_1 Pre_1 Post := by
  intro l hfl _ _ p e ha hc hk s m args below hf hA hF happ hP
  obtain ⟨hcalls, hrest, hpre⟩ := hP
  obtain ⟨-, -, -, hnamed, -, -, -, hat⟩ := (Spec.applies_iff hf).mp happ
  obtain ⟨hg, hn⟩ := and_e (Cond.before_iff.mp (show (Jvm.Cond.and given_1 narrow_1).before args s = true from hpre))
  obtain ⟨gg1, gg2⟩ := and_e hg
  obtain ⟨gg3, gg4⟩ := and_e gg2
  obtain ⟨gg5, gg6⟩ := and_e hn
  obtain ⟨gg7, gg8⟩ := and_e gg6
  obtain ⟨gg9, gg10⟩ := and_e gg8
  obtain ⟨gg11, gg12⟩ := and_e gg10
  obtain ⟨gg13, gg14⟩ := and_e gg12
  obtain ⟨gg15, gg16⟩ := and_e gg14
  obtain ⟨gg17, gg18⟩ := and_e gg16
  obtain ⟨w0, w1, rfl⟩ : ∃ w0 w1 : Value, args = #[w0, w1] := by
    have hs : args.size = 2 := by simpa [Cond.value, given_1] using gg1
    obtain ⟨L⟩ := args
    match L, hs with
    | [w0, w1], _ => exact ⟨w0, w1, rfl⟩
  have hw := fun d (hd : d ∈ tables_1) => atoms_spec (ws := Jvm.Cond.code x code maxLocals ret :: tables_1) hat d (List.mem_cons_of_mem _ hd)
  have hfit : Fit s := fun {y c} hc i hi => by
    obtain ⟨ha, rfl⟩ := Array.getElem?_eq_some_iff.mp hc
    have q := List.all_eq_true.mp ((Array.all_eq_true_iff_forall_mem.mp hF) _ (Array.getElem_mem ha)) i (List.mem_range.mpr hi)
    simpa [Array.getElem?_eq_getElem hi] using q
  obtain ⟨i0, ei0⟩ := is_v gg3
  obtain rfl : w0 = (.int i0) := Option.some.inj ei0
  obtain ⟨i1, ei1⟩ := is_v gg4
  obtain rfl : w1 = (.int i1) := Option.some.inj ei1
  obtain ⟨u_Network_Shape_PATH, eu_Network_Shape_PATH⟩ := exa_v gg5
  obtain ⟨u_Network_Shape_STAR, eu_Network_Shape_STAR⟩ := exa_v gg7
  obtain ⟨u_Network_Shape_TREE, eu_Network_Shape_TREE⟩ := exa_v gg9
  obtain ⟨u_Network_Shape_GENERAL, eu_Network_Shape_GENERAL⟩ := exa_v gg11
  obtain ⟨n, o, h1, h2, h3, _, L, rfl, ⟨rfl, N⟩, hq⟩ := rm0 l s _ hw tables_1 i0 i1 u_Network_Shape_PATH u_Network_Shape_STAR u_Network_Shape_TREE u_Network_Shape_GENERAL s.heap s.heap.size (Nat.le_refl _) (Sta.start eu_Network_Shape_PATH (Or.inr ⟨(hw _ (List.mem_of_getElem? (i := 3) rfl)), (hw _ (List.mem_of_getElem? (i := 4) rfl))⟩)) (Exa.start eu_Network_Shape_PATH gg5) (Sta.start eu_Network_Shape_STAR (Or.inr ⟨(hw _ (List.mem_of_getElem? (i := 3) rfl)), (hw _ (List.mem_of_getElem? (i := 7) rfl))⟩)) (Exa.start eu_Network_Shape_STAR gg7) (Sta.start eu_Network_Shape_TREE (Or.inr ⟨(hw _ (List.mem_of_getElem? (i := 3) rfl)), (hw _ (List.mem_of_getElem? (i := 9) rfl))⟩)) (Exa.start eu_Network_Shape_TREE gg9) (Sta.start eu_Network_Shape_GENERAL (Or.inr ⟨(hw _ (List.mem_of_getElem? (i := 3) rfl)), (hw _ (List.mem_of_getElem? (i := 11) rfl))⟩)) (Exa.start eu_Network_Shape_GENERAL gg11) (own_fldI eu_Network_Shape_PATH gg13) (own_fldI eu_Network_Shape_GENERAL gg15) (own_fldI eu_Network_Shape_TREE gg17) (own_fldI eu_Network_Shape_STAR gg18) p e ha hc hk s m _ below hf ((Spec.applies_iff_loose hf).mp happ).1 ⟨rfl, State.Warmed39.refl s, rfl⟩ trivial
  refine ⟨n, _, h1, h2, h3, hpost _ _ _ _ _ _ ⟨Cond.after_iff.mpr rfl, Cond.after_iff.mpr (eq_i res_at (Term.int_eval (1)) rfl), trivial⟩ ⟨hq.1, hq.2.1, (hq.2.2.sift fun y hy => Or.inr (N y hy)).mono (by decide) (by decide)⟩⟩
theorem main_1_1 : Claimed_1_1 := comes_1 fun _ _ _ _ _ _ h hF => ⟨h.1, hF⟩
theorem main_1_2 : Claimed_1_2 := comes_1 fun _ _ _ _ _ _ h hF => ⟨h.2.1, hF⟩
end Jvm.Pilot.@@N@@
namespace Jvm.Pilot.@@N@@
open Jvm Jvm.ClassFile Sem Op Lib Jvm.Free Jvm.Stand Jvm.Pilot.@@N@@.Jvm.D
/-! MADE BY PROGRAM (witnessworld.py) out of the Statement's table words and the real class files: 13 classes; the members and pool entries that the words name. The judged class is class 1, her method 1. -/
namespace start1
open Jvm.ClassFile
def u (s : String) : CpInfo := .utf8 (stringToUtf16 s)
/-- a pool by its gaps: so many unusable entries, then the entry; so many at the end -/
def gap : Nat → List CpInfo → List CpInfo
  | 0, r => r
  | n + 1, r => .unusable :: gap n r
def poolList (es : List (Nat × CpInfo)) (last : Nat) : List CpInfo := es.foldr (fun e r => gap e.1 (e.2 :: r)) (gap last [])
def pool (es : List (Nat × CpInfo)) (last : Nat) : Array CpInfo := ⟨poolList es last⟩
def fileOf (pool : Array CpInfo) (this : Nat) (attrs : Array Attribute := #[]) (ms : Array MethodInfo := #[]) (fl : Nat := 33) (sup : Nat := 0) (ifs : Array Nat := #[]) (fds : Array FieldInfo := #[]) : ClassFile where
  minorVersion := 0
  majorVersion := 65
  constantPool := pool
  accessFlags := fl
  thisClass := this
  superClass := sup
  interfaces := ifs
  fields := fds
  methods := ms
  attributes := attrs
def plain (name : String) (sup : Option ClassId) : Class where
  name := name
  kind := .ordinary
  loader := none
  accessFlags := 33
  super := sup
  interfaces := #[]
  cf := none
  fields := #[]
  methods := #[]
  instanceTypes := #[]
  staticTypes := #[]
  resolved := #[]
  callSites := []
  init := .initialized
  statics := none
  mirror := none

def pool0 : Array CpInfo := pool [(5, u "<init>"), (0, u "()V"), (1, .class_ 10), (1, u "java/lang/Object")] 113

def k0m0 : Method := { name := "<init>", desc := "()V", sig := { parameters := [], returnType := none }, accessFlags := 1, code := none }
/-- java/lang/Object -/
def k0 : Class := { plain "java/lang/Object" none with
  accessFlags := 33
  interfaces := #[]
  cf := some (fileOf pool0 8 #[] #[{ accessFlags := 1, nameIndex := 5, descriptorIndex := 6, attributes := #[] }] 33 0 #[] #[])
  fields := #[]
  methods := #[k0m0]
  instanceTypes := #[]
  staticTypes := #[]
  resolved := Array.replicate 124 none
  statics := none }

def pool1 : Array CpInfo := pool [(2, .class_ 4), (1, u "java/lang/Object"), (0, u "<init>"), (0, u "()V"), (0, .class_ 8), (0, u "com/example/swapgraph/swapgraph/Network$Shape"), (0, .fieldref 7 10), (0, .nameAndType 11 12), (0, u "PATH"), (0, u "Lcom/example/swapgraph/swapgraph/Network$Shape;"), (0, .fieldref 7 14), (0, .nameAndType 15 12), (0, u "STAR"), (0, .fieldref 7 17), (0, .nameAndType 18 12), (0, u "TREE"), (0, .fieldref 7 20), (0, .nameAndType 21 12), (0, u "GENERAL"), (0, .class_ 23), (0, u "com/example/swapgraph/swapgraph/ShapeWithinPinLaw"), (0, .integer 33893), (0, .methodref 7 26), (0, .nameAndType 27 28), (0, u "within"), (0, u "(Lcom/example/swapgraph/swapgraph/Network$Shape;)Z"), (0, u "TABLE"), (0, u "I"), (3, u "law"), (0, u "(II)Z")] 9

def k1m0 : Method := { name := "<init>", desc := "()V", sig := { parameters := [], returnType := none }, accessFlags := 1, code := none }
def k1c1 : Code := { maxStack := 4, maxLocals := 6, code := code, exceptionTable := #[], attributes := #[] }
def k1m1 : Method := { name := "law", desc := "(II)Z", sig := { parameters := [.int, .int], returnType := some .boolean }, accessFlags := 9, code := some k1c1 }
/-- com/example/swapgraph/swapgraph/ShapeWithinPinLaw -/
def k1 : Class := { plain "com/example/swapgraph/swapgraph/ShapeWithinPinLaw" (some 0) with
  accessFlags := 49
  interfaces := #[]
  cf := some (fileOf pool1 22 #[] #[{ accessFlags := 1, nameIndex := 5, descriptorIndex := 6, attributes := #[] }, { accessFlags := 9, nameIndex := 34, descriptorIndex := 35, attributes := #[] }] 49 2 #[] #[{ accessFlags := 26, nameIndex := 29, descriptorIndex := 30, attributes := #[] }])
  fields := #[{ name := "TABLE", type := .int, accessFlags := 26, slot := 0, constantValue := 0 }]
  methods := #[k1m0, k1m1]
  instanceTypes := #[]
  staticTypes := #[.int]
  resolved := Array.replicate 45 none
  statics := none }

def pool2 : Array CpInfo := pool [(1, .class_ 2), (0, u "java/lang/constant/Constable"), (0, .class_ 4), (0, u "java/lang/Object")] 6

/-- java/lang/constant/Constable -/
def k2 : Class := { plain "java/lang/constant/Constable" (some 0) with
  accessFlags := 1537
  interfaces := #[]
  cf := some (fileOf pool2 1 #[] #[] 1537 3 #[] #[])
  fields := #[]
  methods := #[]
  instanceTypes := #[]
  staticTypes := #[]
  resolved := Array.replicate 11 none
  statics := none }

def pool3 : Array CpInfo := pool [(1, .class_ 2), (0, u "java/lang/Comparable"), (0, .class_ 4), (0, u "java/lang/Object")] 7

/-- java/lang/Comparable -/
def k3 : Class := { plain "java/lang/Comparable" (some 0) with
  accessFlags := 1537
  interfaces := #[]
  cf := some (fileOf pool3 1 #[] #[] 1537 3 #[] #[])
  fields := #[]
  methods := #[]
  instanceTypes := #[]
  staticTypes := #[]
  resolved := Array.replicate 12 none
  statics := none }

def pool4 : Array CpInfo := pool [(1, .class_ 2), (0, u "java/io/Serializable"), (0, .class_ 4), (0, u "java/lang/Object")] 2

/-- java/io/Serializable -/
def k4 : Class := { plain "java/io/Serializable" (some 0) with
  accessFlags := 1537
  interfaces := #[]
  cf := some (fileOf pool4 1 #[] #[] 1537 3 #[] #[])
  fields := #[]
  methods := #[]
  instanceTypes := #[]
  staticTypes := #[]
  resolved := Array.replicate 7 none
  statics := none }

def pool5 : Array CpInfo := pool [(2, .class_ 4), (1, u "java/lang/Enum"), (0, u "name"), (0, u "Ljava/lang/String;"), (2, u "ordinal"), (0, u "I"), (1, .class_ 14), (1, u "java/lang/Object"), (4, u "hash"), (86, .class_ 108), (1, u "java/lang/Enum$EnumDesc"), (2, .class_ 112), (0, u "java/lang/constant/Constable"), (0, .class_ 114), (0, u "java/lang/Comparable"), (0, .class_ 116), (0, u "java/io/Serializable")] 87

/-- java/lang/Enum -/
def k5 : Class := { plain "java/lang/Enum" (some 0) with
  accessFlags := 1057
  interfaces := #[2, 3, 4]
  cf := some (fileOf pool5 2 #[.nestMembers #[106]] #[] 1057 12 #[111, 113, 115] #[{ accessFlags := 18, nameIndex := 5, descriptorIndex := 6, attributes := #[] }, { accessFlags := 18, nameIndex := 9, descriptorIndex := 10, attributes := #[] }, { accessFlags := 2, nameIndex := 19, descriptorIndex := 10, attributes := #[] }])
  fields := #[{ name := "name", type := (.object "java/lang/String"), accessFlags := 18, slot := 0, constantValue := 0 }, { name := "ordinal", type := .int, accessFlags := 18, slot := 1, constantValue := 0 }, { name := "hash", type := .int, accessFlags := 2, slot := 2, constantValue := 0 }]
  methods := #[]
  instanceTypes := #[(.object "java/lang/String"), .int, .int]
  staticTypes := #[]
  resolved := Array.replicate 204 none
  statics := none }

def pool6 : Array CpInfo := pool [(1, .class_ 2), (0, u "com/example/swapgraph/swapgraph/Network$Shape"), (2, u "PATH"), (0, u "Lcom/example/swapgraph/swapgraph/Network$Shape;"), (2, u "STAR"), (0, .fieldref 1 11), (0, .nameAndType 12 6), (0, u "TREE"), (0, .fieldref 1 14), (0, .nameAndType 15 6), (0, u "GENERAL"), (2, u "$VALUES"), (0, u "[Lcom/example/swapgraph/swapgraph/Network$Shape;"), (6, .class_ 28), (1, u "java/lang/Enum"), (39, u "within"), (0, u "(Lcom/example/swapgraph/swapgraph/Network$Shape;)Z"), (6, .class_ 77), (0, u "com/example/swapgraph/swapgraph/Network")] 2

def k6c0 : Code := { maxStack := 2, maxLocals := 2, code := prog_27_method_5_code, exceptionTable := #[], attributes := #[] }
def k6m0 : Method := { name := "within", desc := "(Lcom/example/swapgraph/swapgraph/Network$Shape;)Z", sig := { parameters := [(.object "com/example/swapgraph/swapgraph/Network$Shape")], returnType := some .boolean }, accessFlags := 1, code := some k6c0 }
/-- com/example/swapgraph/swapgraph/Network$Shape -/
def k6 : Class := { plain "com/example/swapgraph/swapgraph/Network$Shape" (some 5) with
  accessFlags := 16433
  interfaces := #[]
  cf := some (fileOf pool6 1 #[.nestHost 76] #[{ accessFlags := 1, nameIndex := 68, descriptorIndex := 69, attributes := #[] }] 16433 26 #[] #[{ accessFlags := 16409, nameIndex := 5, descriptorIndex := 6, attributes := #[] }, { accessFlags := 16409, nameIndex := 9, descriptorIndex := 6, attributes := #[] }, { accessFlags := 16409, nameIndex := 12, descriptorIndex := 6, attributes := #[] }, { accessFlags := 16409, nameIndex := 15, descriptorIndex := 6, attributes := #[] }, { accessFlags := 4122, nameIndex := 18, descriptorIndex := 19, attributes := #[] }])
  fields := #[{ name := "PATH", type := (.object "com/example/swapgraph/swapgraph/Network$Shape"), accessFlags := 16409, slot := 0, constantValue := 0 }, { name := "STAR", type := (.object "com/example/swapgraph/swapgraph/Network$Shape"), accessFlags := 16409, slot := 1, constantValue := 0 }, { name := "TREE", type := (.object "com/example/swapgraph/swapgraph/Network$Shape"), accessFlags := 16409, slot := 2, constantValue := 0 }, { name := "GENERAL", type := (.object "com/example/swapgraph/swapgraph/Network$Shape"), accessFlags := 16409, slot := 3, constantValue := 0 }, { name := "$VALUES", type := (.array (.object "com/example/swapgraph/swapgraph/Network$Shape")), accessFlags := 4122, slot := 4, constantValue := 0 }]
  methods := #[k6m0]
  instanceTypes := #[(.object "java/lang/String"), .int, .int]
  staticTypes := #[(.object "com/example/swapgraph/swapgraph/Network$Shape"), (.object "com/example/swapgraph/swapgraph/Network$Shape"), (.object "com/example/swapgraph/swapgraph/Network$Shape"), (.object "com/example/swapgraph/swapgraph/Network$Shape"), (.array (.object "com/example/swapgraph/swapgraph/Network$Shape"))]
  resolved := Array.replicate 80 none
  statics := some 0 }

def pool7 : Array CpInfo := pool [(1, u "java/lang/Cloneable"), (0, .class_ 1), (0, u "java/lang/Object"), (0, .class_ 3)] 3

/-- java/lang/Cloneable -/
def k7 : Class := { plain "java/lang/Cloneable" (some 0) with
  accessFlags := 1537
  interfaces := #[]
  cf := some (fileOf pool7 2 #[] #[] 1537 4 #[] #[])
  fields := #[]
  methods := #[]
  instanceTypes := #[]
  staticTypes := #[]
  resolved := Array.replicate 8 none
  statics := none }

/-- the primitive byte -/
def k8 : Class := { plain "byte" none with kind := .primitive 'B', accessFlags := 0x411 }
/-- [B -/
def k9 : Class := { plain "[B" (some 0) with kind := .array 8 .byte, interfaces := #[7, 4], accessFlags := 1041 }

/-- the primitive int -/
def k10 : Class := { plain "int" none with kind := .primitive 'I', accessFlags := 0x411 }
/-- [I -/
def k11 : Class := { plain "[I" (some 0) with kind := .array 10 .int, interfaces := #[7, 4], accessFlags := 1041 }

/-- [Lcom/example/swapgraph/swapgraph/Network$Shape; -/
def k12 : Class := { plain "[Lcom/example/swapgraph/swapgraph/Network$Shape;" (some 0) with kind := .array 6 (.object "com/example/swapgraph/swapgraph/Network$Shape"), interfaces := #[7, 4], accessFlags := 1041 }

def heap : Heap := #[{ cls := 6, slots := #[.ref 1, .ref 2, .ref 3, .ref 4, .null], vm := .statics 6 },
  { cls := 6, slots := #[.null, .int 0, .int 0], vm := .none },
  { cls := 6, slots := #[.null, .int 1, .int 0], vm := .none },
  { cls := 6, slots := #[.null, .int 2, .int 0], vm := .none },
  { cls := 6, slots := #[.null, .int 3, .int 0], vm := .none }]
def classes : Array Class := #[k0, k1, k2, k3, k4, k5, k6, k7, k8, k9, k10, k11, k12]
def interned : List (Array UInt16 × Addr) := []
def slotsUsed : Nat := 17
def theMethod : MethodId := ⟨1, 1⟩
def args0 : Array Value := #[.int 5, .int 5]
def aboutOver (below : List Frame) : State where
  vm := { classes := classes, interned := interned.toArray }
  heap := heap
  slotsUsed := slotsUsed
  threads := #[{ frames := .invoking theMethod args0 :: below }]
def below0 : List Frame := [.native { method := ⟨0, 0⟩, args := #[] }]
def about1 : State := aboutOver below0
def p0 : Program := .bare "" "" ""
def e0 : Env := launch0.env 0 0 0
theorem w_frames : about1.frames = Frame.invoking theMethod args0 :: below0 := rfl
set_option maxRecDepth 65536 in
theorem w_args : argsFit about1.vm theMethod args0 = true := by decide +kernel
set_option maxRecDepth 65536 in
theorem w_heap : heapFits about1 = true := by decide +kernel
set_option maxRecDepth 65536 in
theorem w_runnable : about1.curStatus? = some .runnable := by decide +kernel
set_option maxRecDepth 65536 in
theorem w_alone : about1.alone = true := by decide +kernel
set_option maxRecDepth 65536 in
theorem w_named : about1.methodNamed? x = some theMethod := by decide +kernel
set_option maxRecDepth 65536 in
theorem w_hears : about1.hears theMethod below0 = true := by decide +kernel
set_option maxRecDepth 65536 in
theorem w_ripe : about1.ripe theMethod args0 below0 = true := by decide +kernel
theorem w_running : about1.status = .running := rfl
set_option maxRecDepth 65536 in
theorem w_room : about1.hasRoom e0.platform room_1 = true :=
  launch0.hasRoom_least _ room_1 (by decide +kernel) (by decide +kernel) (by decide +kernel) (by decide +kernel) (by decide +kernel) (by decide +kernel)
theorem allAtoms_all (ts : List Jvm.Cond) (a : Array Jvm.Value) (st : Jvm.State) : (allAtoms ts).before a st = ts.all (fun c => c.before a st) := by
  induction ts with
  | nil => rfl
  | cons c t ih =>
    show (Jvm.Cond.and c (allAtoms t)).before a st = _
    rw [Jvm.Cond.before_and, ih, List.all_cons]
def words1 : List Jvm.Cond := Jvm.Cond.code x code maxLocals ret :: tables_1
/-- a 'code' word, met by the world's own term for the bytes: nothing is compared byte by byte -/
theorem code_word {y : MethodName} {bytes : ByteArray} {mx : Nat} {rt : Option FieldType} {a : Array Value} {s : State} {m : MethodId} {meth : Method} {c : Code} (h1 : s.methodNamed? y = some m) (h2 : s.vm.method? m = some meth) (h3 : meth.code = some c) (h4 : c.code = bytes)
    (h5 : (c.maxLocals == mx && c.exceptionTable.isEmpty && decide (c.maxStack ≤ mostOperands) && decide (meth.sig.returnType = rt) && !meth.locks && decide (parseMethodDescriptor y.desc = some meth.sig)) = true) : (Jvm.Cond.code y bytes mx rt).before a s = true := by
  simp only [Bool.and_eq_true, beq_iff_eq, Bool.not_eq_true', decide_eq_true_eq] at h5
  obtain ⟨⟨⟨⟨⟨g1, g2⟩, g3⟩, g4⟩, g5⟩, g6⟩ := h5
  simp [Cond.before, Cond.holds, Cond.value, h1, h2, h3, h4, g1, g2, g3, g4, g5, g6]
def isCode : Jvm.Cond → Bool
  | .code _ _ _ _ => true
  | _ => false
theorem all_split {L : List Jvm.Cond} {P : Jvm.Cond → Bool} (h1 : L.all (fun c => isCode c || P c) = true) (h2 : ∀ c ∈ L.filter isCode, P c = true) : L.all P = true := by
  refine List.all_eq_true.mpr fun c hc => ?_
  have h := List.all_eq_true.mp h1 c hc
  rcases Bool.eq_false_or_eq_true (isCode c) with hi | hi
  · exact h2 c (List.mem_filter.mpr ⟨hc, hi⟩)
  · simpa [hi] using h
set_option maxRecDepth 65536 in
theorem w_c0 : (Jvm.Cond.code x code maxLocals ret).before args0 about1 = true := code_word (m := ⟨1, 1⟩) (meth := k1m1) (c := k1c1) (by decide +kernel) rfl rfl rfl (by decide +kernel)
set_option maxRecDepth 65536 in
theorem w_c1 : (Jvm.Cond.code ({ cls := "com/example/swapgraph/swapgraph/Network$Shape", name := "within", desc := "(Lcom/example/swapgraph/swapgraph/Network$Shape;)Z" } : Jvm.MethodName) prog_27_method_5_code (2 : Nat) (Option.some Jvm.ClassFile.FieldType.boolean)).before args0 about1 = true := code_word (m := ⟨6, 0⟩) (meth := k6m0) (c := k6c0) (by decide +kernel) rfl rfl rfl (by decide +kernel)
def codes1 : List Jvm.Cond := [Jvm.Cond.code x code maxLocals ret, Jvm.Cond.code ({ cls := "com/example/swapgraph/swapgraph/Network$Shape", name := "within", desc := "(Lcom/example/swapgraph/swapgraph/Network$Shape;)Z" } : Jvm.MethodName) prog_27_method_5_code (2 : Nat) (Option.some Jvm.ClassFile.FieldType.boolean)]
set_option maxRecDepth 65536 in
theorem codes_eq : words1.filter isCode = codes1 := rfl
theorem w_codes : ∀ c ∈ words1.filter isCode, c.before args0 about1 = true := by
  rw [codes_eq]
  intro c hc
  simp only [codes1, List.mem_cons, List.not_mem_nil, or_false] at hc
  rcases hc with rfl | rfl
  · exact w_c0
  · exact w_c1
set_option maxRecDepth 65536 in
theorem w_t1 : words1.all (fun c => isCode c || c.before args0 about1) = true := by decide +kernel
theorem w_tables : (allAtoms (Jvm.Cond.code x code maxLocals ret :: tables_1)).before args0 about1 = true := by
  rw [allAtoms_all]
  show words1.all (fun c => c.before args0 about1) = true
  refine all_split ?_ w_codes
  rw [w_t1]
set_option maxRecDepth 65536 in
theorem w_case : (Jvm.Cond.and given_1 narrow_1).before args0 about1 = true := by decide +kernel
theorem w_applies : (headSpec (Jvm.Cond.code x code maxLocals ret :: tables_1) room_1).applies x e0.platform about1 = true :=
  (Spec.applies_iff w_frames).mpr ⟨w_running, w_runnable, w_alone, w_named, w_hears, w_ripe, w_room, w_tables⟩
theorem atStart : AtStart classFile x code maxLocals ret World_1 tables_1 room_1 Calls_1 rest_1 Pre_1 launch0 p0 e0 about1 theMethod args0 below0 :=
  ⟨lists_1, trivial, launch0.admits_env _ _ _, launch0.least_env, fairChoices_fair.cas, fairChoices_fair.clock, w_frames, w_args, w_heap, w_applies, trivial, trivial, w_case⟩
end start1
theorem witness_1 : WitnessClaimed_1 := ⟨start1.p0, start1.e0, start1.about1, start1.theMethod, start1.args0, start1.below0, start1.atStart⟩
end Jvm.Pilot.@@N@@
