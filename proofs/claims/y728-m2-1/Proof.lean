import JvmDerived
import JvmDerived.Pilot.@@N@@Statement
import JvmDerived.Pilot.@@N@@Code
set_option linter.unusedVariables false
set_option linter.unusedSimpArgs false
namespace Jvm.Pilot.@@N@@
open Jvm Jvm.ClassFile Sem Op Lib Jvm.Free Jvm.Stand Jvm.LawKit Jvm.RoadKit Bundle Jvm.Pilot.@@N@@.Jvm.D
section OwnKit
variable {p : Program} {l : Launch} {e : Env} {R : Room} {s : State} {m : MethodId} {args : Array Value} {below : List Frame} {meth : Method} {c : Code} {T : State} {locs : List Loc} {cells slots : Nat}
/-- from the state A the body runs to its end and leaves what Q says -/
def own_Go (p : Program) (e : Env) (below : List Frame) (s : State) (Q : Option Value → Heap → List Loc → Prop) (kc ks : Nat) (A : State) : Prop :=
  ∃ s₂ o, Steps p.tables e below A s₂ ∧ s₂.status = .running ∧ Ended s₂ below o ∧ ∃ v L, o = .returned v ∧ Q v s₂.heap L ∧ FrameEnd s o s₂ L kc ks
theorem own_go {Q : Option Value → Heap → List Loc → Prop} {kc ks : Nat} {A B : State} (h : ∀ t, Steps p.tables e below B t → Steps p.tables e below A t) (k : own_Go p e below s Q kc ks B) : own_Go p e below s Q kc ks A := by
  obtain ⟨s₂, o, h1, h2⟩ := k
  exact ⟨s₂, o, h _ h1, h2⟩
/-- from the state A the body runs to the frame g', the heap as it was -/
def own_Arm (p : Program) (l : Launch) (e : Env) (R : Room) (s : State) (m : MethodId) (args : Array Value) (below : List Frame) (meth : Method) (c : Code) (cells slots n0 : Nat) (h : Heap) (g' : JFrame) (A : State) : Prop :=
  ∃ (T' : State) (locs' : List Loc), Stand p l e R s m args below meth c T' locs' cells slots ∧ Fr n0 locs' ∧ T'.heap = h ∧ ∀ t, Steps p.tables e below (T'.setTop g') t → Steps p.tables e below A t
theorem own_arm {n0 : Nat} {h : Heap} {g' : JFrame} {A B : State} (k1 : ∀ t, Steps p.tables e below B t → Steps p.tables e below A t) (k : own_Arm p l e R s m args below meth c cells slots n0 h g' B) : own_Arm p l e R s m args below meth c cells slots n0 h g' A := by
  obtain ⟨T', locs', h1, h2, h3, h4⟩ := k
  exact ⟨T', locs', h1, h2, h3, fun t kt => k1 t (h4 t kt)⟩
theorem own_armEnd {n0 : Nat} {h : Heap} {g g' : JFrame} (X : Stand p l e R s m args below meth c T locs cells slots) (N : Fr n0 locs) (eT : T.heap = h) (q : g' = g) : own_Arm p l e R s m args below meth c cells slots n0 h g' (T.setTop g) :=
  ⟨T, locs, X, N, eT, fun t kt => q ▸ kt⟩
theorem own_mrg {n0 : Nat} {h : Heap} {g g' : JFrame} (X : Stand p l e R s m args below meth c T locs cells slots) (k : own_Arm p l e R s m args below meth c cells slots n0 h g' (T.setTop g)) :
    ∃ (T' : State) (locs' : List Loc), Stand p l e R s m args below meth c T' locs' cells slots ∧ Fr n0 locs' ∧ T'.heap = h ∧ ∀ t, Steps p.tables e below (T'.setTop g') t → Steps p.tables e below (T.setTop g) t := k
theorem own_leave {Q : Option Value → Heap → List Loc → Prop} {kc ks : Nat} {A : State} {v : Option Value} (X : Stand p l e R s m args below meth c T locs cells slots) (hv : meth.sig.returnType = none → v = none) (hlk : meth.locks = false)
    (hc : cells ≤ kc) (hs : slots ≤ ks) (hQ : Q v T.heap locs) (k : ∀ fs, (∀ (f : JFrame) (acts : List Action), f.method = m → f.locked = none → f.entered = [] → (doReturn e (T.setTop f) acts v).1 = T.setFrames fs) → Steps p.tables e below A (T.setFrames fs)) : own_Go p e below s Q kc ks A := by
  obtain ⟨fs, hr, hrun, hended, hW, hsame⟩ := X.leave (v := v) hv hlk
  exact ⟨_, _, k fs hr, hrun, hended, _, _, rfl, hQ, ⟨_, rfl⟩, hW, hsame.mono hc hs⟩
theorem own_retI {Q : Option Value → Heap → List Loc → Prop} {kc ks pc : Nat} {Ls : Array Slot} {z : Int32} {rest : List Value} (X : Stand p l e R s m args below meth c T locs cells slots) (hx : p.tables.exec = Jvm.exec) (hret : meth.sig.returnType = some .int) (hlk : meth.locks = false)
    (hd : decode c.code pc = .ok (.ireturn, 1)) (hc : cells ≤ kc) (hs : slots ≤ ks) (hQ : Q (some (.int z)) T.heap locs) : own_Go p e below s Q kc ks (T.setTop (mkF m pc Ls (.int z :: rest))) := by
  refine own_leave X (fun h => by rw [hret] at h; cases h) hlk hc hs hQ fun fs hl => ?_
  have hm' : T.vm.method? m = some meth := X.method'
  have hn : narrow .int (.int z) = .int z := rfl
  show Steps p.tables e below (T.setTop { method := m, pc := pc, locals := Ls, stack := _ :: rest, locked := none }) _
  jvm_step X.here [X.here.top, hx, hd, hm', hret, hn]
  first | (intro acts; rw [hl _ acts rfl rfl rfl]) | rw [hl _ _ rfl rfl rfl]
  exact Steps.refl _
theorem own_retN {Q : Option Value → Heap → List Loc → Prop} {kc ks pc : Nat} {Ls : Array Slot} {z : Int32} {rest : List Value} {t : FieldType} (X : Stand p l e R s m args below meth c T locs cells slots) (hx : p.tables.exec = Jvm.exec) (hret : meth.sig.returnType = some t) (ht : t = .boolean ∨ t = .byte ∨ t = .char ∨ t = .short) (hlk : meth.locks = false)
    (hd : decode c.code pc = .ok (.ireturn, 1)) (hc : cells ≤ kc) (hs : slots ≤ ks) (hQ : Q (some (.int (nar t z))) T.heap locs) : own_Go p e below s Q kc ks (T.setTop (mkF m pc Ls (.int z :: rest))) :=
  own_leave X (fun h => by rw [hret] at h; cases h) hlk hc hs hQ fun fs hl => retN X hx (t := t) hret ht hd hl
theorem own_nar01 {z : Int32} (h : z = 0 ∨ z = 1) : nar .boolean z = z := by rcases h with rfl | rfl <;> rfl
theorem own_retZ {Q : Option Value → Heap → List Loc → Prop} {kc ks pc : Nat} {Ls : Array Slot} {z : Int32} {rest : List Value} (X : Stand p l e R s m args below meth c T locs cells slots) (hx : p.tables.exec = Jvm.exec) (hret : meth.sig.returnType = some .boolean) (hlk : meth.locks = false)
    (hd : decode c.code pc = .ok (.ireturn, 1)) (hc : cells ≤ kc) (hs : slots ≤ ks) (hz : z = 0 ∨ z = 1) (hQ : Q (some (.int z)) T.heap locs) : own_Go p e below s Q kc ks (T.setTop (mkF m pc Ls (.int z :: rest))) :=
  own_retN X hx hret (Or.inl rfl) hlk hd hc hs (by rw [own_nar01 hz]; exact hQ)
theorem own_retJ {Q : Option Value → Heap → List Loc → Prop} {kc ks pc : Nat} {Ls : Array Slot} {z : Int64} (X : Stand p l e R s m args below meth c T locs cells slots) (hx : p.tables.exec = Jvm.exec) (hret : meth.sig.returnType = some .long) (hlk : meth.locks = false)
    (hd : decode c.code pc = .ok (.lreturn, 1)) (hc : cells ≤ kc) (hs : slots ≤ ks) (hQ : Q (some (.long z)) T.heap locs) : own_Go p e below s Q kc ks (T.setTop (mkF m pc Ls [.long z])) :=
  own_leave X (fun h => by rw [hret] at h; cases h) hlk hc hs hQ fun fs hl => X.lreturnOut hx hret hd hl
theorem own_retA {Q : Option Value → Heap → List Loc → Prop} {kc ks pc : Nat} {Ls : Array Slot} {w : Value} {t : FieldType} {rest : List Value} (X : Stand p l e R s m args below meth c T locs cells slots) (hx : p.tables.exec = Jvm.exec) (hret : meth.sig.returnType = some t) (ht : t.isReference = true) (hw : w.isRef = true) (hlk : meth.locks = false)
    (hd : decode c.code pc = .ok (.areturn, 1)) (hc : cells ≤ kc) (hs : slots ≤ ks) (hQ : Q (some w) T.heap locs) : own_Go p e below s Q kc ks (T.setTop (mkF m pc Ls (w :: rest))) := by
  refine own_leave X (fun h => by rw [hret] at h; cases h) hlk hc hs hQ fun fs hl => ?_
  have hm' : T.vm.method? m = some meth := X.method'
  show Steps p.tables e below (T.setTop { method := m, pc := pc, locals := Ls, stack := _ :: rest, locked := none }) _
  rcases ref_cases hw with rfl | ⟨a, rfl⟩
  all_goals
    jvm_step X.here [X.here.top, hx, hd, hm', hret, Value.isRef, ht]
    first | (intro acts; rw [hl _ acts rfl rfl rfl]) | rw [hl _ _ rfl rfl rfl]
    exact Steps.refl _
theorem own_retV {Q : Option Value → Heap → List Loc → Prop} {kc ks pc : Nat} {Ls : Array Slot} (X : Stand p l e R s m args below meth c T locs cells slots) (hx : p.tables.exec = Jvm.exec) (hret : meth.sig.returnType = none) (hlk : meth.locks = false)
    (hd : decode c.code pc = .ok (.return_, 1)) (hc : cells ≤ kc) (hs : slots ≤ ks) (hQ : Q none T.heap locs) : own_Go p e below s Q kc ks (T.setTop (mkF m pc Ls [])) :=
  own_leave X (fun _ => rfl) hlk hc hs hQ fun fs hl => X.returnOut hx hret hd hl
theorem own_getFR {Z : State} {a0 : Array Value} {h : Heap} (X : Stand p l e R s m args below meth c T locs cells slots) (hx : p.tables.exec = Jvm.exec) (hZ : Z.Warmed39 s.vm) {own O n d : String} {index : Nat} (hown : s.vm.findClass own = some m.cls) (w : (Jvm.Cond.fieldRef own index O n d).before a0 Z = true)
    (eT : T.heap = h) {a : Addr} {v : Value} (F : Fld Z h a O n d v) {g : JFrame} (hg : g.method = m) {rest : List Value} (hs : g.stack = .ref a :: rest) (hd : decode c.code g.pc = .ok (.getfield index, 3)) (target : State) (k : Steps p.tables e below (T.setTop { g with pc := g.pc + 3, stack := v :: rest }) target) : Steps p.tables e below (T.setTop g) target := by
  obtain ⟨cell, cf, kc, i, f, h1, h2, h3, h4, -, -, h7⟩ := F
  have hW : Z.Warmed39 T.vm := wtrans hZ X.warmed
  have w2 := Cond.fieldRef_warmed39 hW w
  obtain ⟨k', hi, -⟩ := State.fieldFound?_setVm (s := Z) hW.alike h2
  have hc : (Z.setVm T.vm).vm.findClass own = some m.cls := by show T.vm.findClass own = _; rw [X.warmed.alike.findClass]; exact hown
  obtain ⟨c1, k1, i1, f1, e1, hr⟩ := Cond.fieldRef_spec hc w2
  cases hi.symm.trans e1
  exact (X.getfieldR hx hg (cF := cf) (field := f) hr h3 hs (by rw [eT]; exact h1) h4 h7 hd (Steps.refl _)).trans k
theorem own_ite01 {c : Prop} [Decidable c] {a b : Int32} (ha : a = 0 ∨ a = 1) (hb : b = 0 ∨ b = 1) : (if c then a else b) = 0 ∨ (if c then a else b) = 1 := by split <;> assumption
end OwnKit
theorem own_lc_eq {a b : Int64} (h : a = b) : lcmpW a b = 0 := by subst h; simp [lcmpW]
theorem own_lc_neq {a b : Int64} (h : ¬ (a = b)) : ¬ (lcmpW a b = 0) := by unfold lcmpW; split <;> first | decide | (rw [if_neg h]; decide)
theorem own_lc_lt {a b : Int64} (h : a < b) : lcmpW a b < 0 := by
  have h1 : ¬ (a > b) := fun q => Int64.lt_irrefl (Int64.lt_trans h q)
  have h2 : ¬ (a = b) := fun q => by subst q; exact Int64.lt_irrefl h
  rw [lcmpW, if_neg h1, if_neg h2]; decide
theorem own_lc_nlt {a b : Int64} (h : ¬ (a < b)) : ¬ (lcmpW a b < 0) := by
  unfold lcmpW
  split
  · decide
  · rename_i h1
    split
    · decide
    · rename_i h2; exact absurd (Int64.le_antisymm (Int64.not_lt.mp h1) (Int64.not_lt.mp h)) h2
theorem own_lc_gt {a b : Int64} (h : b < a) : (0 : Int32) < lcmpW a b := by rw [lcmpW, if_pos h]; decide
theorem own_lc_ngt {a b : Int64} (h : ¬ (b < a)) : ¬ ((0 : Int32) < lcmpW a b) := by
  rw [lcmpW, if_neg h]; split <;> decide
theorem own_rn {w : Value} {C : String} (h : w.isRef = true) : narrow (.object C) w = w := by rcases ref_cases h with rfl | ⟨a, rfl⟩ <;> rfl
theorem own_rf {w : Value} {C : String} (h : w.isRef = true) : fits (.object C) w = true := by rcases ref_cases h with rfl | ⟨a, rfl⟩ <;> rfl
theorem own_plainE {Z : State} {h : Heap} {a : Addr} {C : String} (E : Exa Z h a C) : ∀ cell : Cell, h[a]? = some cell → cell.vm.isStatics = false := fun cell hc => by
  obtain ⟨c, k, h1, -, -, h4, -⟩ := E
  cases h1.symm.trans hc; exact h4
theorem own_staKeep {Z : State} {h h' : Heap} {C n d : String} {v : Value} {ws : List Addr} (F : Sta Z h C n d v) (K : Keep h h' ws) (q : ∀ x ∈ ws, ∀ cell : Cell, h[x]? = some cell → cell.vm.isStatics = false) : Sta Z h' C n d v := by
  obtain ⟨cf, i, k, f, st, cell, h1, h2, h3, h4, h5, h6, h7⟩ := F
  exact ⟨cf, i, k, f, st, cell, h1, h2, h3, h4, K.2.1 st cell h5 (fun hm => by rw [q st hm cell h5] at h6; cases h6), h6, h7⟩
def own_up {α : Type} (f : Nat → α) (i : Nat) (v : α) : Nat → α := fun k => if k = i then v else f k
def own_AI (Z : State) (h : Heap) (a : Addr) (ty : FieldType) (n : Nat) (f : Nat → Int32) : Prop := ∃ c : Cell, Arr Z h a c ty ∧ c.slots.size = n ∧ n < 2 ^ 31 ∧ ∀ j, j < n → c.slots[j]? = some (.int (f j))
theorem own_AI.lt {Z : State} {h : Heap} {a : Addr} {ty : FieldType} {n : Nat} {f : Nat → Int32} (F : own_AI Z h a ty n f) : a < h.size := by obtain ⟨c, A, -⟩ := F; exact A.lt
theorem own_AI.ext {Z : State} {h h' : Heap} {a : Addr} {ty : FieldType} {n : Nat} {f : Nat → Int32} (F : own_AI Z h a ty n f) (E : Ext h h') : own_AI Z h' a ty n f := by obtain ⟨c, A, r⟩ := F; exact ⟨c, A.ext E, r⟩
theorem own_AI.other {Z : State} {h h' : Heap} {a b : Addr} {ty : FieldType} {n sl : Nat} {w : Value} {f : Nat → Int32} (F : own_AI Z h a ty n f) (W : Wr h h' b sl w) (q : a ≠ b) : own_AI Z h' a ty n f := by obtain ⟨c, A, r⟩ := F; exact ⟨c, A.other W q, r⟩
theorem own_AI.keep {Z : State} {h h' : Heap} {a : Addr} {ty : FieldType} {n : Nat} {ws : List Addr} {f : Nat → Int32} (F : own_AI Z h a ty n f) (K : Keep h h' ws) (q : a ∉ ws) : own_AI Z h' a ty n f := by obtain ⟨c, A, r⟩ := F; exact ⟨c, ⟨K.2.1 a c A.1 q, A.2⟩, r⟩
theorem own_plainAI {Z : State} {h : Heap} {a : Addr} {ty : FieldType} {n : Nat} {f : Nat → Int32} (F : own_AI Z h a ty n f) : ∀ cell : Cell, h[a]? = some cell → cell.vm.isStatics = false := fun cell hc => by
  obtain ⟨c, A, -⟩ := F
  cases A.1.symm.trans hc; exact A.plain
theorem own_AI.wr {Z : State} {h h' : Heap} {a : Addr} {ty : FieldType} {n i : Nat} {x : Int32} {f : Nat → Int32} (F : own_AI Z h a ty n f) (W : Wr h h' a i (.int x)) : own_AI Z h' a ty n (own_up f i x) := by
  obtain ⟨c, A, S, B, H⟩ := F
  refine ⟨_, A.same W, by rw [sz_set]; exact S, B, fun j hj => ?_⟩
  show (c.slots.setIfInBounds i _)[j]? = _
  rw [Array.getElem?_setIfInBounds]
  by_cases q : i = j
  · subst q
    rw [if_pos rfl, if_pos (by rw [S]; exact hj)]; simp [own_up]
  · rw [if_neg q, H j hj, own_up, if_neg (fun e => q e.symm)]
theorem own_AI.new {Z : State} {h : Heap} {a : Addr} {k : ClassId} {ty : FieldType} {z : Int32} {n : Nat} (A : Arr Z h a (newA k ty z) ty) (hd : defaultValue ty = .int 0) (hn : z.toNatClampNeg = n) : own_AI Z h a ty n (fun _ => 0) := by
  refine ⟨_, A, by rw [sz_new]; exact hn, ?_, fun j hj => ?_⟩
  · have := Int32.toInt_lt z; rw [← hn]; unfold Int32.toNatClampNeg; omega
  · have hs : (newA k ty z).slots.size = n := by rw [sz_new]; exact hn
    simp only [newA] at hs ⊢
    rw [Array.getElem?_replicate, if_pos (by rw [hn]; exact hj), hd]
def own_AJ (Z : State) (h : Heap) (a : Addr) (ty : FieldType) (n : Nat) (f : Nat → Int64) : Prop := ∃ c : Cell, Arr Z h a c ty ∧ c.slots.size = n ∧ n < 2 ^ 31 ∧ ∀ j, j < n → c.slots[j]? = some (.long (f j))
theorem own_AJ.lt {Z : State} {h : Heap} {a : Addr} {ty : FieldType} {n : Nat} {f : Nat → Int64} (F : own_AJ Z h a ty n f) : a < h.size := by obtain ⟨c, A, -⟩ := F; exact A.lt
theorem own_AJ.ext {Z : State} {h h' : Heap} {a : Addr} {ty : FieldType} {n : Nat} {f : Nat → Int64} (F : own_AJ Z h a ty n f) (E : Ext h h') : own_AJ Z h' a ty n f := by obtain ⟨c, A, r⟩ := F; exact ⟨c, A.ext E, r⟩
theorem own_AJ.other {Z : State} {h h' : Heap} {a b : Addr} {ty : FieldType} {n sl : Nat} {w : Value} {f : Nat → Int64} (F : own_AJ Z h a ty n f) (W : Wr h h' b sl w) (q : a ≠ b) : own_AJ Z h' a ty n f := by obtain ⟨c, A, r⟩ := F; exact ⟨c, A.other W q, r⟩
theorem own_AJ.keep {Z : State} {h h' : Heap} {a : Addr} {ty : FieldType} {n : Nat} {ws : List Addr} {f : Nat → Int64} (F : own_AJ Z h a ty n f) (K : Keep h h' ws) (q : a ∉ ws) : own_AJ Z h' a ty n f := by obtain ⟨c, A, r⟩ := F; exact ⟨c, ⟨K.2.1 a c A.1 q, A.2⟩, r⟩
theorem own_plainAJ {Z : State} {h : Heap} {a : Addr} {ty : FieldType} {n : Nat} {f : Nat → Int64} (F : own_AJ Z h a ty n f) : ∀ cell : Cell, h[a]? = some cell → cell.vm.isStatics = false := fun cell hc => by
  obtain ⟨c, A, -⟩ := F
  cases A.1.symm.trans hc; exact A.plain
theorem own_AJ.wr {Z : State} {h h' : Heap} {a : Addr} {ty : FieldType} {n i : Nat} {x : Int64} {f : Nat → Int64} (F : own_AJ Z h a ty n f) (W : Wr h h' a i (.long x)) : own_AJ Z h' a ty n (own_up f i x) := by
  obtain ⟨c, A, S, B, H⟩ := F
  refine ⟨_, A.same W, by rw [sz_set]; exact S, B, fun j hj => ?_⟩
  show (c.slots.setIfInBounds i _)[j]? = _
  rw [Array.getElem?_setIfInBounds]
  by_cases q : i = j
  · subst q
    rw [if_pos rfl, if_pos (by rw [S]; exact hj)]; simp [own_up]
  · rw [if_neg q, H j hj, own_up, if_neg (fun e => q e.symm)]
theorem own_AJ.new {Z : State} {h : Heap} {a : Addr} {k : ClassId} {ty : FieldType} {z : Int32} {n : Nat} (A : Arr Z h a (newA k ty z) ty) (hd : defaultValue ty = .long 0) (hn : z.toNatClampNeg = n) : own_AJ Z h a ty n (fun _ => 0) := by
  refine ⟨_, A, by rw [sz_new]; exact hn, ?_, fun j hj => ?_⟩
  · have := Int32.toInt_lt z; rw [← hn]; unfold Int32.toNatClampNeg; omega
  · have hs : (newA k ty z).slots.size = n := by rw [sz_new]; exact hn
    simp only [newA] at hs ⊢
    rw [Array.getElem?_replicate, if_pos (by rw [hn]; exact hj), hd]
section OwnArr
variable {p : Program} {l : Launch} {e : Env} {R : Room} {s : State} {m : MethodId} {args : Array Value} {below : List Frame} {meth : Method} {c : Code} {T : State} {locs : List Loc} {cells slots : Nat} {Z : State} {h : Heap}
theorem own_inb {j : Int32} {n k : Nat} (S : k = n) (hj : ¬ j < 0 ∧ j.toNatClampNeg < n) : ¬ (j < 0 ∨ k ≤ j.toNatClampNeg) := fun q => q.elim hj.1 (fun u => absurd hj.2 (by omega))
theorem own_ldI (X : Stand p l e R s m args below meth c T locs cells slots) (hx : p.tables.exec = Jvm.exec) (hZ : Z.Warmed39 s.vm) (eT : T.heap = h) {a : Addr} {n : Nat} {f : Nat → Int32} (A : own_AI Z h a .int n f) {j : Int32} (hj : ¬ j < 0 ∧ j.toNatClampNeg < n)
    {g : JFrame} (hg : g.method = m) {rest : List Value} (hs : g.stack = .int j :: .ref a :: rest) (hd : decode c.code g.pc = .ok (.iaload, 1)) (target : State) (k : Steps p.tables e below (T.setTop { g with pc := g.pc + 1, stack := .int (f j.toNatClampNeg) :: rest }) target) : Steps p.tables e below (T.setTop g) target := by
  obtain ⟨c', Ar, S, -, H⟩ := A
  exact X.iaload hx (by rw [eT]; exact Ar.1) (State.isArrayOf_alike hZ.alike Ar.2.1) Ar.2.2 (own_inb S hj) (H _ hj.2) hg hs hd target k
theorem own_ldB (X : Stand p l e R s m args below meth c T locs cells slots) (hx : p.tables.exec = Jvm.exec) (hZ : Z.Warmed39 s.vm) (eT : T.heap = h) {a : Addr} {n : Nat} {f : Nat → Int32} (A : own_AI Z h a .byte n f) {j : Int32} (hj : ¬ j < 0 ∧ j.toNatClampNeg < n)
    {g : JFrame} (hg : g.method = m) {rest : List Value} (hs : g.stack = .int j :: .ref a :: rest) (hd : decode c.code g.pc = .ok (.baload, 1)) (target : State) (k : Steps p.tables e below (T.setTop { g with pc := g.pc + 1, stack := .int (f j.toNatClampNeg) :: rest }) target) : Steps p.tables e below (T.setTop g) target := by
  obtain ⟨c', Ar, S, -, H⟩ := A
  exact X.baloadBytes hx (by rw [eT]; exact Ar.1) (State.isArrayOf_alike hZ.alike Ar.2.1) Ar.2.2 (own_inb S hj) (H _ hj.2) hg hs hd target k
theorem own_ldJ (X : Stand p l e R s m args below meth c T locs cells slots) (hx : p.tables.exec = Jvm.exec) (hZ : Z.Warmed39 s.vm) (eT : T.heap = h) {a : Addr} {n : Nat} {f : Nat → Int64} (A : own_AJ Z h a .long n f) {j : Int32} (hj : ¬ j < 0 ∧ j.toNatClampNeg < n)
    {g : JFrame} (hg : g.method = m) {rest : List Value} (hs : g.stack = .int j :: .ref a :: rest) (hd : decode c.code g.pc = .ok (.laload, 1)) (target : State) (k : Steps p.tables e below (T.setTop { g with pc := g.pc + 1, stack := .long (f j.toNatClampNeg) :: rest }) target) : Steps p.tables e below (T.setTop g) target := by
  obtain ⟨c', Ar, S, -, H⟩ := A
  exact X.laload hx (by rw [eT]; exact Ar.1) (State.isArrayOf_alike hZ.alike Ar.2.1) Ar.2.2 (own_inb S hj) (H _ hj.2) hg hs hd target k
theorem own_lenI (X : Stand p l e R s m args below meth c T locs cells slots) (hx : p.tables.exec = Jvm.exec) (hZ : Z.Warmed39 s.vm) (eT : T.heap = h) {a : Addr} {ty : FieldType} {n : Nat} {f : Nat → Int32} (A : own_AI Z h a ty n f)
    {g : JFrame} (hg : g.method = m) {rest : List Value} (hs : g.stack = .ref a :: rest) (hd : decode c.code g.pc = .ok (.arraylength, 1)) (target : State) (k : Steps p.tables e below (T.setTop { g with pc := g.pc + 1, stack := .int (n.toInt32) :: rest }) target) : Steps p.tables e below (T.setTop g) target := by
  obtain ⟨c', Ar, S, -, H⟩ := A
  exact X.arraylength hx (by rw [eT]; exact Ar.1) (State.isArrayOf_alike hZ.alike Ar.2.1) hg hs hd target (by rw [S]; exact k)
theorem own_lenJ (X : Stand p l e R s m args below meth c T locs cells slots) (hx : p.tables.exec = Jvm.exec) (hZ : Z.Warmed39 s.vm) (eT : T.heap = h) {a : Addr} {ty : FieldType} {n : Nat} {f : Nat → Int64} (A : own_AJ Z h a ty n f)
    {g : JFrame} (hg : g.method = m) {rest : List Value} (hs : g.stack = .ref a :: rest) (hd : decode c.code g.pc = .ok (.arraylength, 1)) (target : State) (k : Steps p.tables e below (T.setTop { g with pc := g.pc + 1, stack := .int (n.toInt32) :: rest }) target) : Steps p.tables e below (T.setTop g) target := by
  obtain ⟨c', Ar, S, -, H⟩ := A
  exact X.arraylength hx (by rw [eT]; exact Ar.1) (State.isArrayOf_alike hZ.alike Ar.2.1) hg hs hd target (by rw [S]; exact k)
theorem own_stI (X : Stand p l e R s m args below meth c T locs cells slots) (hx : p.tables.exec = Jvm.exec) (hZ : Z.Warmed39 s.vm) (eT : T.heap = h) {a : Addr} {n : Nat} {f : Nat → Int32} (A : own_AI Z h a .int n f) {j x : Int32} (hj : ¬ j < 0 ∧ j.toNatClampNeg < n)
    {g : JFrame} (hg : g.method = m) {rest : List Value} (hs : g.stack = .int x :: .int j :: .ref a :: rest) (hd : decode c.code g.pc = .ok (.iastore, 1)) :
    ∃ T' h', Stand p l e R s m args below meth c T' (locs ++ [⟨a, j.toNatClampNeg⟩]) cells slots ∧ T'.heap = h' ∧ Wr h h' a j.toNatClampNeg (.int x) ∧ own_AI Z h' a .int n (own_up f j.toNatClampNeg x) ∧ ∀ target, Steps p.tables e below (T'.setTop { g with pc := g.pc + 1, stack := rest }) target → Steps p.tables e below (T.setTop g) target := by
  have A2 := A
  obtain ⟨c', Ar, S, -, H⟩ := A
  obtain ⟨T', h', X', e', W, st⟩ := stI X hx hZ eT Ar (j := j) (x := x) (own_inb S hj) hg hs hd
  exact ⟨T', h', X', e', W, A2.wr W, st⟩
theorem own_stB (X : Stand p l e R s m args below meth c T locs cells slots) (hx : p.tables.exec = Jvm.exec) (hZ : Z.Warmed39 s.vm) (eT : T.heap = h) {a : Addr} {n : Nat} {f : Nat → Int32} (A : own_AI Z h a .byte n f) {j x : Int32} (hj : ¬ j < 0 ∧ j.toNatClampNeg < n)
    {g : JFrame} (hg : g.method = m) {rest : List Value} (hs : g.stack = .int x :: .int j :: .ref a :: rest) (hd : decode c.code g.pc = .ok (.bastore, 1)) :
    ∃ T' h', Stand p l e R s m args below meth c T' (locs ++ [⟨a, j.toNatClampNeg⟩]) cells slots ∧ T'.heap = h' ∧ Wr h h' a j.toNatClampNeg (.int (nar .byte x)) ∧ own_AI Z h' a .byte n (own_up f j.toNatClampNeg (nar .byte x)) ∧ ∀ target, Steps p.tables e below (T'.setTop { g with pc := g.pc + 1, stack := rest }) target → Steps p.tables e below (T.setTop g) target := by
  have A2 := A
  obtain ⟨c', Ar, S, -, H⟩ := A
  obtain ⟨T', h', X', e', W, st⟩ := stB X hx hZ eT Ar (j := j) (x := x) (own_inb S hj) hg hs hd
  exact ⟨T', h', X', e', W, A2.wr W, st⟩
theorem own_stC (X : Stand p l e R s m args below meth c T locs cells slots) (hx : p.tables.exec = Jvm.exec) (hZ : Z.Warmed39 s.vm) (eT : T.heap = h) {a : Addr} {n : Nat} {f : Nat → Int32} (A : own_AI Z h a .char n f) {j x : Int32} (hj : ¬ j < 0 ∧ j.toNatClampNeg < n)
    {g : JFrame} (hg : g.method = m) {rest : List Value} (hs : g.stack = .int x :: .int j :: .ref a :: rest) (hd : decode c.code g.pc = .ok (.castore, 1)) :
    ∃ T' h', Stand p l e R s m args below meth c T' (locs ++ [⟨a, j.toNatClampNeg⟩]) cells slots ∧ T'.heap = h' ∧ Wr h h' a j.toNatClampNeg (.int (nar .char x)) ∧ own_AI Z h' a .char n (own_up f j.toNatClampNeg (nar .char x)) ∧ ∀ target, Steps p.tables e below (T'.setTop { g with pc := g.pc + 1, stack := rest }) target → Steps p.tables e below (T.setTop g) target := by
  have A2 := A
  obtain ⟨c', Ar, S, -, H⟩ := A
  obtain ⟨T', h', X', e', W, st⟩ := stC X hx hZ eT Ar (j := j) (x := x) (own_inb S hj) hg hs hd
  exact ⟨T', h', X', e', W, A2.wr W, st⟩
theorem own_stJ (X : Stand p l e R s m args below meth c T locs cells slots) (hx : p.tables.exec = Jvm.exec) (hZ : Z.Warmed39 s.vm) (eT : T.heap = h) {a : Addr} {n : Nat} {f : Nat → Int64} (A : own_AJ Z h a .long n f) {j : Int32} {x : Int64} (hj : ¬ j < 0 ∧ j.toNatClampNeg < n)
    {g : JFrame} (hg : g.method = m) {rest : List Value} (hs : g.stack = .long x :: .int j :: .ref a :: rest) (hd : decode c.code g.pc = .ok (.lastore, 1)) :
    ∃ T' h', Stand p l e R s m args below meth c T' (locs ++ [⟨a, j.toNatClampNeg⟩]) cells slots ∧ T'.heap = h' ∧ Wr h h' a j.toNatClampNeg (.long x) ∧ own_AJ Z h' a .long n (own_up f j.toNatClampNeg x) ∧ ∀ target, Steps p.tables e below (T'.setTop { g with pc := g.pc + 1, stack := rest }) target → Steps p.tables e below (T.setTop g) target := by
  have A2 := A
  obtain ⟨c', Ar, S, -, H⟩ := A
  obtain ⟨T', h', X', e', W, st⟩ := stJ X hx hZ eT Ar (j := j) (x := x) (own_inb S hj) hg hs hd
  exact ⟨T', h', X', e', W, A2.wr W, st⟩
end OwnArr
theorem own_fldI {s : State} {args : Array Value} {t : Term} {u : Addr} {C n d : String} {k : Int32} (et : t.eval args s none [] s = some (.ref u)) (h : (Jvm.Cond.eq (.field t C n d) (.int k)).value args s none s [] = some true) : Fld s s.heap u C n d (.int k) := by
  obtain ⟨x, y, ha, hb, -, -⟩ := cmp_v (Or.inl h)
  have hy : y = .int k := (Option.some.inj ((Term.int_eval k).symm.trans hb)).symm
  subst hy
  refine Fld.start ?_
  rw [← fld_at (o := none) (idx := []) et, ha]
  simp only [Cond.value, ha, hb] at h
  cases x <;> simp_all
theorem own_fldN {s : State} {args : Array Value} {t : Term} {u : Addr} {C n d : String} (et : t.eval args s none [] s = some (.ref u)) (h : (Jvm.Cond.eq (.field t C n d) .null).value args s none s [] = some true) : Fld s s.heap u C n d .null :=
  Fld.start (by rw [← fld_at (o := none) (idx := []) et]; exact null_v h)
theorem own_fldR {s : State} {args : Array Value} {t t' : Term} {u u' : Addr} {C n d : String} (et : t.eval args s none [] s = some (.ref u)) (et' : t'.eval args s none [] s = some (.ref u')) (h : (Jvm.Cond.eq (.field t C n d) t').value args s none s [] = some true) : Fld s s.heap u C n d (.ref u') := by
  obtain ⟨x, y, ha, hb, -, -⟩ := cmp_v (Or.inl h)
  have hy : y = .ref u' := Option.some.inj (hb.symm.trans et')
  subst hy
  refine Fld.start ?_
  rw [← fld_at (o := none) (idx := []) et, ha]
  simp only [Cond.value, ha, hb] at h
  cases x <;> simp_all
theorem own_neI {s : State} {args : Array Value} {t : Term} {u k : Int32} (et : t.eval args s none [] s = some (.int u)) (h : (Jvm.Cond.not (Jvm.Cond.eq t (.int k))).value args s none s [] = some true) : ¬ (u = k) := fun q => by
  have q2 := not_v h
  have hb : (Term.int k).eval args s none [] s = some (.int k) := Term.int_eval k
  subst q
  simp only [Cond.value, et, hb] at q2
  simp at q2
theorem d1_0 : decode prog_43_method_3_code 0 = .ok (.iload_n 0, 1) := by decide +kernel
theorem d1_1 : decode prog_43_method_3_code 1 = .ok (.ifCond .eq 9, 3) := by decide +kernel
theorem d1_10 : decode prog_43_method_3_code 10 = .ok (.getstatic 35, 3) := by decide +kernel
theorem d1_13 : decode prog_43_method_3_code 13 = .ok (.areturn, 1) := by decide +kernel
theorem ef_1a (m : MethodId) (p0 : Int32) : entryFrame m #[(.int p0)] 1 = mkF m 0 #[.val (.int p0)] [] := by (first | (simp [entryFrame, mkF, argsToLocals, Value.category]; done) | rfl)
theorem pn0 : plainName "com/example/canonic/canonic/Verdict" = true := by first | (simp [plainName, overriddenIn]; done) | decide +kernel
def Q1a (Z : State) (p0 : Int32) (u1 : Addr) (h0 : Heap) (n0 : Nat) (v : Option Value) (h : Heap) (L : List Loc) : Prop := v = some (.ref u1) ∧ Fr n0 L ∧ h = h0
set_option maxRecDepth 65536 in
set_option maxHeartbeats 40000000 in
theorem rm1a (l : Launch) (Z : State) (a0 : Array Value) (hw : ∀ d ∈ tables_1, d.before a0 Z = true) (ws : List Jvm.Cond) (p0 : Int32) (u1 : Addr) (h0 : Heap) (n0 : Nat) (Z0 : n0 ≤ h0.size) (ha : p0 = (0 : Int32)) (S_SAFE_BY_KEPT_ANSWER : Sta Z h0 "com/example/canonic/canonic/Verdict" "SAFE_BY_KEPT_ANSWER" "Lcom/example/canonic/canonic/Verdict;" (.ref u1)) :
    MetFree l (⟨"com/example/canonic/canonic/Verdict", "safeAfterMatch", "(Z)Lcom/example/canonic/canonic/Verdict;"⟩ : MethodName) (head1 (Jvm.Cond.code (⟨"com/example/canonic/canonic/Verdict", "safeAfterMatch", "(Z)Lcom/example/canonic/canonic/Verdict;"⟩ : MethodName) prog_43_method_3_code 1 (some (.object "com/example/canonic/canonic/Verdict")) :: ws) ({ frames := 0, cells := 0, slots := 0, locals := 0 } : Room)) (fun a U => a = #[(.int p0)] ∧ Z.Warmed39 U.vm ∧ U.heap = h0) (fun _ _ _ _ _ => True) (fun _ U o U' => ∃ v L, o = .returned v ∧ Q1a Z p0 u1 h0 n0 v U'.heap L ∧ FrameEnd U o U' L ({ frames := 0, cells := 0, slots := 0, locals := 0 } : Room).cells ({ frames := 0, cells := 0, slots := 0, locals := 0 } : Room).slots) := by
  refine MetFree.of_bodySF (plainFor_of_name pn0) hisR ?_
  intro p e s m args below meth c s₁ Bd hml0 hP hK
  obtain ⟨rfl, hZ, hh⟩ := hP
  have hx := Bd.exec
  have hby := Bd.bytes
  have hml : c.maxLocals = 1 := hml0
  have hown : s.vm.findClass "com/example/canonic/canonic/Verdict" = some m.cls := findClass_of_methodNamed Bd.named
  have hnm := (name_of_methodNamed Bd.named Bd.method).1
  have X0 : Stand p l e ({ frames := 0, cells := 0, slots := 0, locals := 0 } : Room) s m #[(.int p0)] below meth c s₁ [] 0 0 := Stand.of_body Bd
  have e0 : s₁.heap = h0 := by rw [← hh, Bd.state]; rfl
  have N0 := Fr.nil n0
  have K0 : Keep h0 h0 [] := Keep.refl h0 _
  show own_Go p e below s (Q1a Z p0 u1 h0 n0) ({ frames := 0, cells := 0, slots := 0, locals := 0 } : Room).cells ({ frames := 0, cells := 0, slots := 0, locals := 0 } : Room).slots (s₁.setTop (entryFrame m #[(.int p0)] 1))
  refine own_go (fun t k => castTop (ef_1a m p0) k) ?_
  obtain ⟨T101, X101, e101, st101⟩ := getS2 X0 hx hZ hown (host := "") (Or.inl (hw _ (List.mem_of_getElem? (i := 4) rfl))) Via.refl e0 S_SAFE_BY_KEPT_ANSWER (g := (mkF m 10 #[.val (.int p0)] [])) rfl (hb hby d1_10)
  have hgo102 : ∀ t, Steps p.tables e below (T101.setTop (mkF m 13 #[.val (.int p0)] [(.ref u1)])) t → Steps p.tables e below (s₁.setTop (mkF m 0 #[.val (.int p0)] [])) t := by
    intro t kt
    show Steps p.tables e below (s₁.setTop (mkF m 0 #[.val (.int p0)] [])) _
    refine XS.iloadN X0.here hx rfl (hb hby d1_0) rfl ?_
    show Steps p.tables e below (s₁.setTop (mkF m 1 #[.val (.int p0)] [(.int p0)])) _
    refine XS.ifYes X0.here hx rfl (pc0 := 1) (pc' := 10) rfl (hb hby d1_1) rfl ((if0 _ _).trans (teq ha).1) (by decide) (by decide) ?_
    show Steps p.tables e below (s₁.setTop (mkF m 10 #[.val (.int p0)] [])) _
    refine st101 _ ?_
    exact kt
  refine own_go hgo102 ?_
  exact own_retA X101 hx Bd.returns rfl rfl Bd.notSynchronized (hb hby d1_13) (by decide) (by decide) (by rw [e101]; exact ⟨(by rfl), N0, rfl⟩)
theorem d1_4 : decode prog_43_method_3_code 4 = .ok (.getstatic 32, 3) := by decide +kernel
theorem d1_7 : decode prog_43_method_3_code 7 = .ok (.goto 6, 3) := by decide +kernel
theorem ef_1b (m : MethodId) (p0 : Int32) : entryFrame m #[(.int p0)] 1 = mkF m 0 #[.val (.int p0)] [] := by (first | (simp [entryFrame, mkF, argsToLocals, Value.category]; done) | rfl)
def Q1b (Z : State) (p0 : Int32) (u1 : Addr) (h0 : Heap) (n0 : Nat) (v : Option Value) (h : Heap) (L : List Loc) : Prop := v = some (.ref u1) ∧ Fr n0 L ∧ h = h0
set_option maxRecDepth 65536 in
set_option maxHeartbeats 40000000 in
theorem rm1b (l : Launch) (Z : State) (a0 : Array Value) (hw : ∀ d ∈ tables_1, d.before a0 Z = true) (ws : List Jvm.Cond) (p0 : Int32) (u1 : Addr) (h0 : Heap) (n0 : Nat) (Z0 : n0 ≤ h0.size) (ha : ¬ (p0 = (0 : Int32))) (S_SAFE_BY_REQUEST : Sta Z h0 "com/example/canonic/canonic/Verdict" "SAFE_BY_REQUEST" "Lcom/example/canonic/canonic/Verdict;" (.ref u1)) :
    MetFree l (⟨"com/example/canonic/canonic/Verdict", "safeAfterMatch", "(Z)Lcom/example/canonic/canonic/Verdict;"⟩ : MethodName) (head1 (Jvm.Cond.code (⟨"com/example/canonic/canonic/Verdict", "safeAfterMatch", "(Z)Lcom/example/canonic/canonic/Verdict;"⟩ : MethodName) prog_43_method_3_code 1 (some (.object "com/example/canonic/canonic/Verdict")) :: ws) ({ frames := 0, cells := 0, slots := 0, locals := 0 } : Room)) (fun a U => a = #[(.int p0)] ∧ Z.Warmed39 U.vm ∧ U.heap = h0) (fun _ _ _ _ _ => True) (fun _ U o U' => ∃ v L, o = .returned v ∧ Q1b Z p0 u1 h0 n0 v U'.heap L ∧ FrameEnd U o U' L ({ frames := 0, cells := 0, slots := 0, locals := 0 } : Room).cells ({ frames := 0, cells := 0, slots := 0, locals := 0 } : Room).slots) := by
  refine MetFree.of_bodySF (plainFor_of_name pn0) hisR ?_
  intro p e s m args below meth c s₁ Bd hml0 hP hK
  obtain ⟨rfl, hZ, hh⟩ := hP
  have hx := Bd.exec
  have hby := Bd.bytes
  have hml : c.maxLocals = 1 := hml0
  have hown : s.vm.findClass "com/example/canonic/canonic/Verdict" = some m.cls := findClass_of_methodNamed Bd.named
  have hnm := (name_of_methodNamed Bd.named Bd.method).1
  have X0 : Stand p l e ({ frames := 0, cells := 0, slots := 0, locals := 0 } : Room) s m #[(.int p0)] below meth c s₁ [] 0 0 := Stand.of_body Bd
  have e0 : s₁.heap = h0 := by rw [← hh, Bd.state]; rfl
  have N0 := Fr.nil n0
  have K0 : Keep h0 h0 [] := Keep.refl h0 _
  show own_Go p e below s (Q1b Z p0 u1 h0 n0) ({ frames := 0, cells := 0, slots := 0, locals := 0 } : Room).cells ({ frames := 0, cells := 0, slots := 0, locals := 0 } : Room).slots (s₁.setTop (entryFrame m #[(.int p0)] 1))
  refine own_go (fun t k => castTop (ef_1b m p0) k) ?_
  obtain ⟨T101, X101, e101, st101⟩ := getS2 X0 hx hZ hown (host := "") (Or.inl (hw _ (List.mem_of_getElem? (i := 37) rfl))) Via.refl e0 S_SAFE_BY_REQUEST (g := (mkF m 4 #[.val (.int p0)] [])) rfl (hb hby d1_4)
  have hgo102 : ∀ t, Steps p.tables e below (T101.setTop (mkF m 13 #[.val (.int p0)] [(.ref u1)])) t → Steps p.tables e below (s₁.setTop (mkF m 0 #[.val (.int p0)] [])) t := by
    intro t kt
    show Steps p.tables e below (s₁.setTop (mkF m 0 #[.val (.int p0)] [])) _
    refine XS.iloadN X0.here hx rfl (hb hby d1_0) rfl ?_
    show Steps p.tables e below (s₁.setTop (mkF m 1 #[.val (.int p0)] [(.int p0)])) _
    refine XS.ifNo X0.here hx rfl (hb hby d1_1) rfl ((if0 _ _).trans (feq ha).1) ?_
    show Steps p.tables e below (s₁.setTop (mkF m 4 #[.val (.int p0)] [])) _
    refine st101 _ ?_
    show Steps p.tables e below (T101.setTop (mkF m 7 #[.val (.int p0)] [(.ref u1)])) _
    refine XS.goto X101.here hx rfl (pc0 := 7) (pc' := 13) rfl (hb hby d1_7) (by decide) (by decide) ?_
    exact kt
  refine own_go hgo102 ?_
  exact own_retA X101 hx Bd.returns rfl rfl Bd.notSynchronized (hb hby d1_13) (by decide) (by decide) (by rw [e101]; exact ⟨(by rfl), N0, rfl⟩)
theorem d2_0 : decode prog_43_method_7_code 0 = .ok (.aload_n 0, 1) := by decide +kernel
theorem d2_1 : decode prog_43_method_7_code 1 = .ok (.getfield 7, 3) := by decide +kernel
theorem d2_4 : decode prog_43_method_7_code 4 = .ok (.areturn, 1) := by decide +kernel
theorem ef_2 (m : MethodId) (r0 : Addr) : entryFrame m #[(.ref r0)] 1 = mkF m 0 #[.val (.ref r0)] [] := by (first | (simp [entryFrame, mkF, argsToLocals, Value.category]; done) | rfl)
def Q2 (Z : State) (r0 : Addr) (w1 : Addr) (h0 : Heap) (n0 : Nat) (v : Option Value) (h : Heap) (L : List Loc) : Prop := v = some (.ref w1) ∧ Fr n0 L ∧ h = h0
set_option maxRecDepth 65536 in
set_option maxHeartbeats 40000000 in
theorem rm2 (l : Launch) (Z : State) (a0 : Array Value) (hw : ∀ d ∈ tables_1, d.before a0 Z = true) (ws : List Jvm.Cond) (r0 : Addr) (w1 : Addr) (h0 : Heap) (n0 : Nat) (Z0 : n0 ≤ h0.size) (F_kind_r0 : Fld Z h0 r0 "com/example/canonic/canonic/Verdict" "kind" "Lcom/example/canonic/canonic/Verdict$Kind;" (.ref w1)) :
    MetFree l (⟨"com/example/canonic/canonic/Verdict", "kind", "()Lcom/example/canonic/canonic/Verdict$Kind;"⟩ : MethodName) (head1 (Jvm.Cond.code (⟨"com/example/canonic/canonic/Verdict", "kind", "()Lcom/example/canonic/canonic/Verdict$Kind;"⟩ : MethodName) prog_43_method_7_code 1 (some (.object "com/example/canonic/canonic/Verdict$Kind")) :: ws) ({ frames := 0, cells := 0, slots := 0, locals := 0 } : Room)) (fun a U => a = #[(.ref r0)] ∧ Z.Warmed39 U.vm ∧ U.heap = h0) (fun _ _ _ _ _ => True) (fun _ U o U' => ∃ v L, o = .returned v ∧ Q2 Z r0 w1 h0 n0 v U'.heap L ∧ FrameEnd U o U' L ({ frames := 0, cells := 0, slots := 0, locals := 0 } : Room).cells ({ frames := 0, cells := 0, slots := 0, locals := 0 } : Room).slots) := by
  refine MetFree.of_bodySF (plainFor_of_name pn0) hisR ?_
  intro p e s m args below meth c s₁ Bd hml0 hP hK
  obtain ⟨rfl, hZ, hh⟩ := hP
  have hx := Bd.exec
  have hby := Bd.bytes
  have hml : c.maxLocals = 1 := hml0
  have hown : s.vm.findClass "com/example/canonic/canonic/Verdict" = some m.cls := findClass_of_methodNamed Bd.named
  have hnm := (name_of_methodNamed Bd.named Bd.method).1
  have X0 : Stand p l e ({ frames := 0, cells := 0, slots := 0, locals := 0 } : Room) s m #[(.ref r0)] below meth c s₁ [] 0 0 := Stand.of_body Bd
  have e0 : s₁.heap = h0 := by rw [← hh, Bd.state]; rfl
  have N0 := Fr.nil n0
  have K0 : Keep h0 h0 [] := Keep.refl h0 _
  show own_Go p e below s (Q2 Z r0 w1 h0 n0) ({ frames := 0, cells := 0, slots := 0, locals := 0 } : Room).cells ({ frames := 0, cells := 0, slots := 0, locals := 0 } : Room).slots (s₁.setTop (entryFrame m #[(.ref r0)] 1))
  refine own_go (fun t k => castTop (ef_2 m r0) k) ?_
  obtain ⟨T101, X101, e101, st101⟩ := getF X0 hx hZ hown (host := "") (Or.inl (hw _ (List.mem_of_getElem? (i := 11) rfl))) Via.refl e0 F_kind_r0 (g := (mkF m 1 #[.val (.ref r0)] [(.ref r0)])) rfl rfl (hb hby d2_1)
  have hgo102 : ∀ t, Steps p.tables e below (T101.setTop (mkF m 4 #[.val (.ref r0)] [(.ref w1)])) t → Steps p.tables e below (s₁.setTop (mkF m 0 #[.val (.ref r0)] [])) t := by
    intro t kt
    show Steps p.tables e below (s₁.setTop (mkF m 0 #[.val (.ref r0)] [])) _
    refine XS.aloadN X0.here hx rfl (hb hby d2_0) rfl rfl ?_
    show Steps p.tables e below (s₁.setTop (mkF m 1 #[.val (.ref r0)] [(.ref r0)])) _
    refine st101 _ ?_
    exact kt
  refine own_go hgo102 ?_
  exact own_retA X101 hx Bd.returns rfl rfl Bd.notSynchronized (hb hby d2_4) (by decide) (by decide) (by rw [e101]; exact ⟨(by rfl), N0, rfl⟩)
theorem d3_0 : decode prog_43_method_8_code 0 = .ok (.aload_n 0, 1) := by decide +kernel
theorem d3_1 : decode prog_43_method_8_code 1 = .ok (.getfield 21, 3) := by decide +kernel
theorem d3_4 : decode prog_43_method_8_code 4 = .ok (.ireturn, 1) := by decide +kernel
theorem ef_3 (m : MethodId) (r0 : Addr) : entryFrame m #[(.ref r0)] 1 = mkF m 0 #[.val (.ref r0)] [] := by (first | (simp [entryFrame, mkF, argsToLocals, Value.category]; done) | rfl)
def Q3 (Z : State) (r0 : Addr) (w1 : Int32) (h0 : Heap) (n0 : Nat) (v : Option Value) (h : Heap) (L : List Loc) : Prop := v = some (.int (nar .boolean w1)) ∧ Fr n0 L ∧ h = h0
set_option maxRecDepth 65536 in
set_option maxHeartbeats 40000000 in
theorem rm3 (l : Launch) (Z : State) (a0 : Array Value) (hw : ∀ d ∈ tables_1, d.before a0 Z = true) (ws : List Jvm.Cond) (r0 : Addr) (w1 : Int32) (h0 : Heap) (n0 : Nat) (Z0 : n0 ≤ h0.size) (F_matched_r0 : Fld Z h0 r0 "com/example/canonic/canonic/Verdict" "matched" "Z" (.int w1)) :
    MetFree l (⟨"com/example/canonic/canonic/Verdict", "matched", "()Z"⟩ : MethodName) (head1 (Jvm.Cond.code (⟨"com/example/canonic/canonic/Verdict", "matched", "()Z"⟩ : MethodName) prog_43_method_8_code 1 (some .boolean) :: ws) ({ frames := 0, cells := 0, slots := 0, locals := 0 } : Room)) (fun a U => a = #[(.ref r0)] ∧ Z.Warmed39 U.vm ∧ U.heap = h0) (fun _ _ _ _ _ => True) (fun _ U o U' => ∃ v L, o = .returned v ∧ Q3 Z r0 w1 h0 n0 v U'.heap L ∧ FrameEnd U o U' L ({ frames := 0, cells := 0, slots := 0, locals := 0 } : Room).cells ({ frames := 0, cells := 0, slots := 0, locals := 0 } : Room).slots) := by
  refine MetFree.of_bodySF (plainFor_of_name pn0) hisR ?_
  intro p e s m args below meth c s₁ Bd hml0 hP hK
  obtain ⟨rfl, hZ, hh⟩ := hP
  have hx := Bd.exec
  have hby := Bd.bytes
  have hml : c.maxLocals = 1 := hml0
  have hown : s.vm.findClass "com/example/canonic/canonic/Verdict" = some m.cls := findClass_of_methodNamed Bd.named
  have hnm := (name_of_methodNamed Bd.named Bd.method).1
  have X0 : Stand p l e ({ frames := 0, cells := 0, slots := 0, locals := 0 } : Room) s m #[(.ref r0)] below meth c s₁ [] 0 0 := Stand.of_body Bd
  have e0 : s₁.heap = h0 := by rw [← hh, Bd.state]; rfl
  have N0 := Fr.nil n0
  have K0 : Keep h0 h0 [] := Keep.refl h0 _
  show own_Go p e below s (Q3 Z r0 w1 h0 n0) ({ frames := 0, cells := 0, slots := 0, locals := 0 } : Room).cells ({ frames := 0, cells := 0, slots := 0, locals := 0 } : Room).slots (s₁.setTop (entryFrame m #[(.ref r0)] 1))
  refine own_go (fun t k => castTop (ef_3 m r0) k) ?_
  obtain ⟨T101, X101, e101, st101⟩ := getF X0 hx hZ hown (host := "") (Or.inl (hw _ (List.mem_of_getElem? (i := 21) rfl))) Via.refl e0 F_matched_r0 (g := (mkF m 1 #[.val (.ref r0)] [(.ref r0)])) rfl rfl (hb hby d3_1)
  have hgo102 : ∀ t, Steps p.tables e below (T101.setTop (mkF m 4 #[.val (.ref r0)] [(.int w1)])) t → Steps p.tables e below (s₁.setTop (mkF m 0 #[.val (.ref r0)] [])) t := by
    intro t kt
    show Steps p.tables e below (s₁.setTop (mkF m 0 #[.val (.ref r0)] [])) _
    refine XS.aloadN X0.here hx rfl (hb hby d3_0) rfl rfl ?_
    show Steps p.tables e below (s₁.setTop (mkF m 1 #[.val (.ref r0)] [(.ref r0)])) _
    refine st101 _ ?_
    exact kt
  refine own_go hgo102 ?_
  exact own_retN X101 hx Bd.returns (t := .boolean) (by simp) Bd.notSynchronized (hb hby d3_4) (by decide) (by decide) (by rw [e101]; exact ⟨(by rfl), N0, rfl⟩)
theorem d4_0 : decode prog_43_method_9_code 0 = .ok (.aload_n 0, 1) := by decide +kernel
theorem d4_1 : decode prog_43_method_9_code 1 = .ok (.getfield 25, 3) := by decide +kernel
theorem d4_4 : decode prog_43_method_9_code 4 = .ok (.ireturn, 1) := by decide +kernel
theorem ef_4 (m : MethodId) (r0 : Addr) : entryFrame m #[(.ref r0)] 1 = mkF m 0 #[.val (.ref r0)] [] := by (first | (simp [entryFrame, mkF, argsToLocals, Value.category]; done) | rfl)
def Q4 (Z : State) (r0 : Addr) (w1 : Int32) (h0 : Heap) (n0 : Nat) (v : Option Value) (h : Heap) (L : List Loc) : Prop := v = some (.int (nar .boolean w1)) ∧ Fr n0 L ∧ h = h0
set_option maxRecDepth 65536 in
set_option maxHeartbeats 40000000 in
theorem rm4 (l : Launch) (Z : State) (a0 : Array Value) (hw : ∀ d ∈ tables_1, d.before a0 Z = true) (ws : List Jvm.Cond) (r0 : Addr) (w1 : Int32) (h0 : Heap) (n0 : Nat) (Z0 : n0 ≤ h0.size) (F_requested_r0 : Fld Z h0 r0 "com/example/canonic/canonic/Verdict" "requested" "Z" (.int w1)) :
    MetFree l (⟨"com/example/canonic/canonic/Verdict", "requested", "()Z"⟩ : MethodName) (head1 (Jvm.Cond.code (⟨"com/example/canonic/canonic/Verdict", "requested", "()Z"⟩ : MethodName) prog_43_method_9_code 1 (some .boolean) :: ws) ({ frames := 0, cells := 0, slots := 0, locals := 0 } : Room)) (fun a U => a = #[(.ref r0)] ∧ Z.Warmed39 U.vm ∧ U.heap = h0) (fun _ _ _ _ _ => True) (fun _ U o U' => ∃ v L, o = .returned v ∧ Q4 Z r0 w1 h0 n0 v U'.heap L ∧ FrameEnd U o U' L ({ frames := 0, cells := 0, slots := 0, locals := 0 } : Room).cells ({ frames := 0, cells := 0, slots := 0, locals := 0 } : Room).slots) := by
  refine MetFree.of_bodySF (plainFor_of_name pn0) hisR ?_
  intro p e s m args below meth c s₁ Bd hml0 hP hK
  obtain ⟨rfl, hZ, hh⟩ := hP
  have hx := Bd.exec
  have hby := Bd.bytes
  have hml : c.maxLocals = 1 := hml0
  have hown : s.vm.findClass "com/example/canonic/canonic/Verdict" = some m.cls := findClass_of_methodNamed Bd.named
  have hnm := (name_of_methodNamed Bd.named Bd.method).1
  have X0 : Stand p l e ({ frames := 0, cells := 0, slots := 0, locals := 0 } : Room) s m #[(.ref r0)] below meth c s₁ [] 0 0 := Stand.of_body Bd
  have e0 : s₁.heap = h0 := by rw [← hh, Bd.state]; rfl
  have N0 := Fr.nil n0
  have K0 : Keep h0 h0 [] := Keep.refl h0 _
  show own_Go p e below s (Q4 Z r0 w1 h0 n0) ({ frames := 0, cells := 0, slots := 0, locals := 0 } : Room).cells ({ frames := 0, cells := 0, slots := 0, locals := 0 } : Room).slots (s₁.setTop (entryFrame m #[(.ref r0)] 1))
  refine own_go (fun t k => castTop (ef_4 m r0) k) ?_
  obtain ⟨T101, X101, e101, st101⟩ := getF X0 hx hZ hown (host := "") (Or.inl (hw _ (List.mem_of_getElem? (i := 28) rfl))) Via.refl e0 F_requested_r0 (g := (mkF m 1 #[.val (.ref r0)] [(.ref r0)])) rfl rfl (hb hby d4_1)
  have hgo102 : ∀ t, Steps p.tables e below (T101.setTop (mkF m 4 #[.val (.ref r0)] [(.int w1)])) t → Steps p.tables e below (s₁.setTop (mkF m 0 #[.val (.ref r0)] [])) t := by
    intro t kt
    show Steps p.tables e below (s₁.setTop (mkF m 0 #[.val (.ref r0)] [])) _
    refine XS.aloadN X0.here hx rfl (hb hby d4_0) rfl rfl ?_
    show Steps p.tables e below (s₁.setTop (mkF m 1 #[.val (.ref r0)] [(.ref r0)])) _
    refine st101 _ ?_
    exact kt
  refine own_go hgo102 ?_
  exact own_retN X101 hx Bd.returns (t := .boolean) (by simp) Bd.notSynchronized (hb hby d4_4) (by decide) (by decide) (by rw [e101]; exact ⟨(by rfl), N0, rfl⟩)
theorem d5_0 : decode prog_43_method_12_code 0 = .ok (.aload_n 0, 1) := by decide +kernel
theorem d5_1 : decode prog_43_method_12_code 1 = .ok (.getfield 17, 3) := by decide +kernel
theorem d5_4 : decode prog_43_method_12_code 4 = .ok (.areturn, 1) := by decide +kernel
theorem ef_5 (m : MethodId) (r0 : Addr) : entryFrame m #[(.ref r0)] 1 = mkF m 0 #[.val (.ref r0)] [] := by (first | (simp [entryFrame, mkF, argsToLocals, Value.category]; done) | rfl)
def Q5 (Z : State) (r0 : Addr) (h0 : Heap) (n0 : Nat) (v : Option Value) (h : Heap) (L : List Loc) : Prop := v = some .null ∧ Fr n0 L ∧ h = h0
set_option maxRecDepth 65536 in
set_option maxHeartbeats 40000000 in
theorem rm5 (l : Launch) (Z : State) (a0 : Array Value) (hw : ∀ d ∈ tables_1, d.before a0 Z = true) (ws : List Jvm.Cond) (r0 : Addr) (h0 : Heap) (n0 : Nat) (Z0 : n0 ≤ h0.size) (F_problem_r0 : Fld Z h0 r0 "com/example/canonic/canonic/Verdict" "problem" "Ljava/lang/String;" .null) :
    MetFree l (⟨"com/example/canonic/canonic/Verdict", "problem", "()Ljava/lang/String;"⟩ : MethodName) (head1 (Jvm.Cond.code (⟨"com/example/canonic/canonic/Verdict", "problem", "()Ljava/lang/String;"⟩ : MethodName) prog_43_method_12_code 1 (some (.object "java/lang/String")) :: ws) ({ frames := 0, cells := 0, slots := 0, locals := 0 } : Room)) (fun a U => a = #[(.ref r0)] ∧ Z.Warmed39 U.vm ∧ U.heap = h0) (fun _ _ _ _ _ => True) (fun _ U o U' => ∃ v L, o = .returned v ∧ Q5 Z r0 h0 n0 v U'.heap L ∧ FrameEnd U o U' L ({ frames := 0, cells := 0, slots := 0, locals := 0 } : Room).cells ({ frames := 0, cells := 0, slots := 0, locals := 0 } : Room).slots) := by
  refine MetFree.of_bodySF (plainFor_of_name pn0) hisR ?_
  intro p e s m args below meth c s₁ Bd hml0 hP hK
  obtain ⟨rfl, hZ, hh⟩ := hP
  have hx := Bd.exec
  have hby := Bd.bytes
  have hml : c.maxLocals = 1 := hml0
  have hown : s.vm.findClass "com/example/canonic/canonic/Verdict" = some m.cls := findClass_of_methodNamed Bd.named
  have hnm := (name_of_methodNamed Bd.named Bd.method).1
  have X0 : Stand p l e ({ frames := 0, cells := 0, slots := 0, locals := 0 } : Room) s m #[(.ref r0)] below meth c s₁ [] 0 0 := Stand.of_body Bd
  have e0 : s₁.heap = h0 := by rw [← hh, Bd.state]; rfl
  have N0 := Fr.nil n0
  have K0 : Keep h0 h0 [] := Keep.refl h0 _
  show own_Go p e below s (Q5 Z r0 h0 n0) ({ frames := 0, cells := 0, slots := 0, locals := 0 } : Room).cells ({ frames := 0, cells := 0, slots := 0, locals := 0 } : Room).slots (s₁.setTop (entryFrame m #[(.ref r0)] 1))
  refine own_go (fun t k => castTop (ef_5 m r0) k) ?_
  obtain ⟨T101, X101, e101, st101⟩ := getF X0 hx hZ hown (host := "") (Or.inl (hw _ (List.mem_of_getElem? (i := 35) rfl))) Via.refl e0 F_problem_r0 (g := (mkF m 1 #[.val (.ref r0)] [(.ref r0)])) rfl rfl (hb hby d5_1)
  have hgo102 : ∀ t, Steps p.tables e below (T101.setTop (mkF m 4 #[.val (.ref r0)] [.null])) t → Steps p.tables e below (s₁.setTop (mkF m 0 #[.val (.ref r0)] [])) t := by
    intro t kt
    show Steps p.tables e below (s₁.setTop (mkF m 0 #[.val (.ref r0)] [])) _
    refine XS.aloadN X0.here hx rfl (hb hby d5_0) rfl rfl ?_
    show Steps p.tables e below (s₁.setTop (mkF m 1 #[.val (.ref r0)] [(.ref r0)])) _
    refine st101 _ ?_
    exact kt
  refine own_go hgo102 ?_
  exact own_retA X101 hx Bd.returns rfl rfl Bd.notSynchronized (hb hby d5_4) (by decide) (by decide) (by rw [e101]; exact ⟨(by rfl), N0, rfl⟩)
theorem pd1 : parseMethodDescriptor "(Z)Lcom/example/canonic/canonic/Verdict;" = some ⟨[.boolean], some (.object "com/example/canonic/canonic/Verdict")⟩ := by decide +kernel
theorem pd2 : parseMethodDescriptor "()Lcom/example/canonic/canonic/Verdict$Kind;" = some ⟨[], some (.object "com/example/canonic/canonic/Verdict$Kind")⟩ := by decide +kernel
theorem pd3 : parseMethodDescriptor "()Z" = some ⟨[], some .boolean⟩ := by decide +kernel
theorem pd4 : parseMethodDescriptor "()Ljava/lang/String;" = some ⟨[], some (.object "java/lang/String")⟩ := by decide +kernel
theorem ef_0 (m : MethodId) (p0 : Int32) : entryFrame m #[(.int p0)] maxLocals = mkF m 0 #[.val (.int p0), .unset, .unset] [] := by (first | (simp [entryFrame, mkF, argsToLocals, Value.category, maxLocals]; done) | rfl)
set_option maxRecDepth 65536 in
theorem own_leaf0 {p0 v2 v6 v7 : Int32} {u_Verdict_SAFE_BY_KEPT_ANSWER u_Verdict_Kind_SAFE u_Verdict_SAFE_BY_REQUEST : Addr} (hv2 : v2 = (if (p0 &&& (1 : Int32)) = (0 : Int32) then (0 : Int32) else (1 : Int32))) (hv6 : v6 = (if (nar .boolean (0 : Int32)) = v2 then (1 : Int32) else (0 : Int32))) (hv7 : v7 = (if (nar .boolean (1 : Int32)) = (0 : Int32) then (0 : Int32) else v6)) (hs13_3 : v2 = (0 : Int32)) : v7 = 1 := by simp only [show nar .boolean (0 : Int32) = 0 from rfl, show nar .boolean (1 : Int32) = 1 from rfl] at *; (first | (simp_all; done) | (split at hv2 <;> simp_all))
set_option maxRecDepth 65536 in
theorem own_leaf1 {p0 v2 v10 v11 : Int32} {u_Verdict_SAFE_BY_KEPT_ANSWER u_Verdict_Kind_SAFE u_Verdict_SAFE_BY_REQUEST : Addr} (hv2 : v2 = (if (p0 &&& (1 : Int32)) = (0 : Int32) then (0 : Int32) else (1 : Int32))) (hv10 : v10 = (if (nar .boolean (1 : Int32)) = v2 then (1 : Int32) else (0 : Int32))) (hv11 : v11 = (if (nar .boolean (1 : Int32)) = (0 : Int32) then (0 : Int32) else v10)) (hs13_3 : ¬ (v2 = (0 : Int32))) : v11 = 1 := by simp only [show nar .boolean (0 : Int32) = 0 from rfl, show nar .boolean (1 : Int32) = 1 from rfl] at *; (first | (simp_all; done) | (split at hv2 <;> simp_all))
theorem pn5 : plainName "com/example/canonic/canonic/VerdictSafeAfterMatchPinLaw" = true := by first | (simp [plainName, overriddenIn]; done) | decide +kernel
def Q0 (Z : State) (p0 : Int32) (u_Verdict_SAFE_BY_KEPT_ANSWER : Addr) (u_Verdict_Kind_SAFE : Addr) (u_Verdict_SAFE_BY_REQUEST : Addr) (h0 : Heap) (n0 : Nat) (v : Option Value) (h : Heap) (L : List Loc) : Prop := v = some (.int 1) ∧ Fr n0 L
set_option maxRecDepth 65536 in
set_option maxHeartbeats 40000000 in
theorem rm0 (l : Launch) (Z : State) (a0 : Array Value) (hw : ∀ d ∈ tables_1, d.before a0 Z = true) (ws : List Jvm.Cond) (p0 : Int32) (u_Verdict_SAFE_BY_KEPT_ANSWER : Addr) (u_Verdict_Kind_SAFE : Addr) (u_Verdict_SAFE_BY_REQUEST : Addr) (h0 : Heap) (n0 : Nat) (Z0 : n0 ≤ h0.size) (S_u_Verdict_SAFE_BY_KEPT_ANSWER : Sta Z h0 "com/example/canonic/canonic/Verdict" "SAFE_BY_KEPT_ANSWER" "Lcom/example/canonic/canonic/Verdict;" (.ref u_Verdict_SAFE_BY_KEPT_ANSWER)) (E_u_Verdict_SAFE_BY_KEPT_ANSWER : Exa Z h0 u_Verdict_SAFE_BY_KEPT_ANSWER "com/example/canonic/canonic/Verdict") (S_u_Verdict_Kind_SAFE : Sta Z h0 "com/example/canonic/canonic/Verdict$Kind" "SAFE" "Lcom/example/canonic/canonic/Verdict$Kind;" (.ref u_Verdict_Kind_SAFE)) (E_u_Verdict_Kind_SAFE : Exa Z h0 u_Verdict_Kind_SAFE "com/example/canonic/canonic/Verdict$Kind") (S_u_Verdict_SAFE_BY_REQUEST : Sta Z h0 "com/example/canonic/canonic/Verdict" "SAFE_BY_REQUEST" "Lcom/example/canonic/canonic/Verdict;" (.ref u_Verdict_SAFE_BY_REQUEST)) (E_u_Verdict_SAFE_BY_REQUEST : Exa Z h0 u_Verdict_SAFE_BY_REQUEST "com/example/canonic/canonic/Verdict") (F_kind_u_Verdict_SAFE_BY_KEPT_ANSWER : Fld Z h0 u_Verdict_SAFE_BY_KEPT_ANSWER "com/example/canonic/canonic/Verdict" "kind" "Lcom/example/canonic/canonic/Verdict$Kind;" (.ref u_Verdict_Kind_SAFE)) (F_matched_u_Verdict_SAFE_BY_KEPT_ANSWER : Fld Z h0 u_Verdict_SAFE_BY_KEPT_ANSWER "com/example/canonic/canonic/Verdict" "matched" "Z" (.int (1 : Int32))) (F_requested_u_Verdict_SAFE_BY_KEPT_ANSWER : Fld Z h0 u_Verdict_SAFE_BY_KEPT_ANSWER "com/example/canonic/canonic/Verdict" "requested" "Z" (.int (0 : Int32))) (F_problem_u_Verdict_SAFE_BY_KEPT_ANSWER : Fld Z h0 u_Verdict_SAFE_BY_KEPT_ANSWER "com/example/canonic/canonic/Verdict" "problem" "Ljava/lang/String;" .null) (F_kind_u_Verdict_SAFE_BY_REQUEST : Fld Z h0 u_Verdict_SAFE_BY_REQUEST "com/example/canonic/canonic/Verdict" "kind" "Lcom/example/canonic/canonic/Verdict$Kind;" (.ref u_Verdict_Kind_SAFE)) (F_matched_u_Verdict_SAFE_BY_REQUEST : Fld Z h0 u_Verdict_SAFE_BY_REQUEST "com/example/canonic/canonic/Verdict" "matched" "Z" (.int (1 : Int32))) (F_requested_u_Verdict_SAFE_BY_REQUEST : Fld Z h0 u_Verdict_SAFE_BY_REQUEST "com/example/canonic/canonic/Verdict" "requested" "Z" (.int (1 : Int32))) (F_problem_u_Verdict_SAFE_BY_REQUEST : Fld Z h0 u_Verdict_SAFE_BY_REQUEST "com/example/canonic/canonic/Verdict" "problem" "Ljava/lang/String;" .null) :
    MetFree l x (head1 (Jvm.Cond.code x code maxLocals ret :: ws) room_1) (fun a U => a = #[(.int p0)] ∧ Z.Warmed39 U.vm ∧ U.heap = h0) (fun _ _ _ _ _ => True) (fun _ U o U' => ∃ v L, o = .returned v ∧ Q0 Z p0 u_Verdict_SAFE_BY_KEPT_ANSWER u_Verdict_Kind_SAFE u_Verdict_SAFE_BY_REQUEST h0 n0 v U'.heap L ∧ FrameEnd U o U' L room_1.cells room_1.slots) := by
  refine MetFree.of_bodySF (plainFor_of_name pn5) hisR ?_
  intro p e s m args below meth c s₁ Bd hml0 hP hK
  obtain ⟨rfl, hZ, hh⟩ := hP
  have hx := Bd.exec
  have hby := Bd.bytes
  have hml : c.maxLocals = 3 := hml0
  have hown : s.vm.findClass "com/example/canonic/canonic/VerdictSafeAfterMatchPinLaw" = some m.cls := findClass_of_methodNamed Bd.named
  have hnm := (name_of_methodNamed Bd.named Bd.method).1
  have X0 : Stand p l e room_1 s m #[(.int p0)] below meth c s₁ [] 0 0 := Stand.of_body Bd
  have e0 : s₁.heap = h0 := by rw [← hh, Bd.state]; rfl
  have N0 := Fr.nil n0
  have K0 : Keep h0 h0 [] := Keep.refl h0 _
  show own_Go p e below s (Q0 Z p0 u_Verdict_SAFE_BY_KEPT_ANSWER u_Verdict_Kind_SAFE u_Verdict_SAFE_BY_REQUEST h0 n0) room_1.cells room_1.slots (s₁.setTop (entryFrame m #[(.int p0)] maxLocals))
  refine own_go (fun t k => castTop (ef_0 m p0) k) ?_
  obtain ⟨v2, hv2⟩ : ∃ z : Int32, z = (if (p0 &&& (1 : Int32)) = (0 : Int32) then (0 : Int32) else (1 : Int32)) := ⟨_, rfl⟩
  obtain ⟨T103, lc103, X103, N103, e103, st103⟩ := own_mrg (n0 := n0) (h := h0) (g := (mkF m 3 #[.val (.int p0), .unset, .unset] [(.int (p0 &&& (1 : Int32)))])) (g' := (mkF m 11 #[.val (.int p0), .unset, .unset] [(.int v2)])) X0 (by
    by_cases hc3_1 : (p0 &&& (1 : Int32)) = (0 : Int32)
    · have hgo101 : ∀ t, Steps p.tables e below (s₁.setTop (mkF m 11 #[.val (.int p0), .unset, .unset] [(.int (0 : Int32))])) t → Steps p.tables e below (s₁.setTop (mkF m 3 #[.val (.int p0), .unset, .unset] [(.int (p0 &&& (1 : Int32)))])) t := by
        intro t kt
        show Steps p.tables e below (s₁.setTop (mkF m 3 #[.val (.int p0), .unset, .unset] [(.int (p0 &&& (1 : Int32)))])) _
        refine XS.ifYes X0.here hx rfl (pc0 := 3) (pc' := 10) rfl (hb hby at_3) rfl ((if0 _ _).trans (teq hc3_1).1) (by decide) (by decide) ?_
        show Steps p.tables e below (s₁.setTop (mkF m 10 #[.val (.int p0), .unset, .unset] [])) _
        refine XS.iconst X0.here hx rfl (hb hby at_10) ?_
        exact kt
      refine own_arm hgo101 ?_
      exact own_armEnd X0 N0 e0 (by rw [hv2.trans (if_pos hc3_1)])
    · have hgo102 : ∀ t, Steps p.tables e below (s₁.setTop (mkF m 11 #[.val (.int p0), .unset, .unset] [(.int (1 : Int32))])) t → Steps p.tables e below (s₁.setTop (mkF m 3 #[.val (.int p0), .unset, .unset] [(.int (p0 &&& (1 : Int32)))])) t := by
        intro t kt
        show Steps p.tables e below (s₁.setTop (mkF m 3 #[.val (.int p0), .unset, .unset] [(.int (p0 &&& (1 : Int32)))])) _
        refine XS.ifNo X0.here hx rfl (hb hby at_3) rfl ((if0 _ _).trans (feq hc3_1).1) ?_
        show Steps p.tables e below (s₁.setTop (mkF m 6 #[.val (.int p0), .unset, .unset] [])) _
        refine XS.iconst X0.here hx rfl (hb hby at_6) ?_
        show Steps p.tables e below (s₁.setTop (mkF m 7 #[.val (.int p0), .unset, .unset] [(.int (1 : Int32))])) _
        refine XS.goto X0.here hx rfl (pc0 := 7) (pc' := 11) rfl (hb hby at_7) (by decide) (by decide) ?_
        exact kt
      refine own_arm hgo102 ?_
      exact own_armEnd X0 N0 e0 (by rw [hv2.trans (if_neg hc3_1)]))
  have hgo104 : ∀ t, Steps p.tables e below (T103.setTop (mkF m 13 #[.val (.int p0), .val (.int v2), .unset] [(.int v2)])) t → Steps p.tables e below (s₁.setTop (mkF m 0 #[.val (.int p0), .unset, .unset] [])) t := by
    intro t kt
    show Steps p.tables e below (s₁.setTop (mkF m 0 #[.val (.int p0), .unset, .unset] [])) _
    refine XS.iloadN X0.here hx rfl (hb hby at_0) rfl ?_
    show Steps p.tables e below (s₁.setTop (mkF m 1 #[.val (.int p0), .unset, .unset] [(.int p0)])) _
    refine XS.iconst X0.here hx rfl (hb hby at_1) ?_
    show Steps p.tables e below (s₁.setTop (mkF m 2 #[.val (.int p0), .unset, .unset] [(.int (1 : Int32)), (.int p0)])) _
    refine XS.iand X0.here hx rfl (hb hby at_2) rfl ?_
    show Steps p.tables e below (s₁.setTop (mkF m 3 #[.val (.int p0), .unset, .unset] [(.int (p0 &&& (1 : Int32)))])) _
    refine st103 _ ?_
    show Steps p.tables e below (T103.setTop (mkF m 11 #[.val (.int p0), .unset, .unset] [(.int v2)])) _
    refine XS.istoreN X103.here hx rfl (hb hby at_11) rfl (l' := #[.val (.int p0), .val (.int v2), .unset]) rfl ?_
    show Steps p.tables e below (T103.setTop (mkF m 12 #[.val (.int p0), .val (.int v2), .unset] [])) _
    refine XS.iloadN X103.here hx rfl (hb hby at_12) rfl ?_
    exact kt
  refine own_go hgo104 ?_
  by_cases hs13_3 : v2 = (0 : Int32)
  · obtain ⟨_, _, ⟨T105, L105, k105, n105⟩, -, X105, ⟨Lc105, hQ105, l105, y105, z105⟩, st105⟩ := Jvm.LawKit.callS X103 hx (y := (⟨"com/example/canonic/canonic/Verdict", "safeAfterMatch", "(Z)Lcom/example/canonic/canonic/Verdict;"⟩ : MethodName)) hown (mvT hZ (hw _ (List.mem_of_getElem? (i := 0) rfl))) (mvT hZ (hw _ (List.mem_of_getElem? (i := 1) rfl))) (mvT hZ (hw _ (List.mem_of_getElem? (i := 2) rfl))) (mvT hZ (hw _ (List.mem_of_getElem? (i := 3) rfl))) (by decide) (backOf (W := 0) (rm1a l Z a0 hw [] v2 u_Verdict_SAFE_BY_KEPT_ANSWER h0 n0 Z0 (by first | assumption | decide : v2 = (0 : Int32)) S_u_Verdict_SAFE_BY_KEPT_ANSWER) hZ (hw _ (List.mem_of_getElem? (i := 3) rfl)) (hw _ (List.mem_of_getElem? (i := 2) rfl)) (by decide) (by decide)) (g := (mkF m 13 #[.val (.int p0), .val (.int v2), .unset] [(.int v2)])) rfl (by rw [hml]; rfl) (argsL := [(.int v2)]) (rest := []) (lenOf pd1 rfl) rfl (by show 2 * 0 + _ ≤ _; exact Nat.le_of_eq rfl) (hb hby at_13) (fun _ _ => ⟨rfl, e103, (by decide : 0 + 0 ≤ _), (by decide : 0 + 0 ≤ _)⟩)
    dsimp only [Pt.U, Pt.locs, Pt.cells, Pt.slots] at X105 l105 y105 z105 st105 hQ105
    subst l105 y105 z105
    obtain ⟨rfl, N105q, e105⟩ := hQ105
    have N105 := Fr.app N103 N105q
    obtain ⟨cq106, kq106, q106a, q106b, q106c⟩ := isOf hZ e105 E_u_Verdict_SAFE_BY_KEPT_ANSWER
    obtain ⟨_, _, ⟨T106, L106, k106, n106⟩, -, X106, ⟨Lc106, hQ106, l106, y106, z106⟩, st106⟩ := X105.virtualBack hx (y := (⟨"com/example/canonic/canonic/Verdict", "kind", "()Lcom/example/canonic/canonic/Verdict$Kind;"⟩ : MethodName)) (z := (⟨"com/example/canonic/canonic/Verdict", "kind", "()Lcom/example/canonic/canonic/Verdict$Kind;"⟩ : MethodName)) hown (mvT hZ (hw _ (List.mem_of_getElem? (i := 6) rfl))) (mvT hZ (hw _ (List.mem_of_getElem? (i := 7) rfl))) (notFace_of_selects (args := #[]) (mvT hZ (hw _ (List.mem_of_getElem? (i := 9) rfl)))) (mvT hZ (hw _ (List.mem_of_getElem? (i := 9) rfl))) (mvT hZ (hw _ (List.mem_of_getElem? (i := 8) rfl))) (by decide) (backOf (W := 0) (rm2 l Z a0 hw [] u_Verdict_SAFE_BY_KEPT_ANSWER u_Verdict_Kind_SAFE h0 n0 Z0 F_kind_u_Verdict_SAFE_BY_KEPT_ANSWER) hZ (hw _ (List.mem_of_getElem? (i := 10) rfl)) (hw _ (List.mem_of_getElem? (i := 2) rfl)) (by decide) (by decide)) q106a q106c (g := (mkF m 24 #[.val (.int p0), .val (.int v2), .val (.ref u_Verdict_SAFE_BY_KEPT_ANSWER)] [(.ref u_Verdict_SAFE_BY_KEPT_ANSWER)])) rfl (by rw [hml]; rfl) (Steps.refl _) (argsL := []) (rest := []) (lenOf pd2 rfl) rfl (by show 2 * 0 + _ ≤ _; exact Nat.le_of_eq rfl) (hb hby at_24) (fun _ _ => ⟨rfl, e105, (by decide : 0 + 0 ≤ _), (by decide : 0 + 0 ≤ _)⟩)
    dsimp only [Pt.U, Pt.locs, Pt.cells, Pt.slots] at X106 l106 y106 z106 st106 hQ106
    subst l106 y106 z106
    obtain ⟨rfl, N106q, e106⟩ := hQ106
    have N106 := Fr.app N105 N106q
    obtain ⟨T107, X107, e107, st107⟩ := getS2 X106 hx hZ hown (host := "") (Or.inl (hw _ (List.mem_of_getElem? (i := 15) rfl))) Via.refl e106 S_u_Verdict_Kind_SAFE (g := (mkF m 27 #[.val (.int p0), .val (.int v2), .val (.ref u_Verdict_SAFE_BY_KEPT_ANSWER)] [(.ref u_Verdict_Kind_SAFE)])) rfl (hb hby at_27)
    obtain ⟨cq108, kq108, q108a, q108b, q108c⟩ := isOf hZ e107 E_u_Verdict_SAFE_BY_KEPT_ANSWER
    obtain ⟨_, _, ⟨T108, L108, k108, n108⟩, -, X108, ⟨Lc108, hQ108, l108, y108, z108⟩, st108⟩ := X107.virtualBack hx (y := (⟨"com/example/canonic/canonic/Verdict", "matched", "()Z"⟩ : MethodName)) (z := (⟨"com/example/canonic/canonic/Verdict", "matched", "()Z"⟩ : MethodName)) hown (mvT hZ (hw _ (List.mem_of_getElem? (i := 16) rfl))) (mvT hZ (hw _ (List.mem_of_getElem? (i := 17) rfl))) (notFace_of_selects (args := #[]) (mvT hZ (hw _ (List.mem_of_getElem? (i := 19) rfl)))) (mvT hZ (hw _ (List.mem_of_getElem? (i := 19) rfl))) (mvT hZ (hw _ (List.mem_of_getElem? (i := 18) rfl))) (by decide) (backOf (W := 0) (rm3 l Z a0 hw [] u_Verdict_SAFE_BY_KEPT_ANSWER (1 : Int32) h0 n0 Z0 F_matched_u_Verdict_SAFE_BY_KEPT_ANSWER) hZ (hw _ (List.mem_of_getElem? (i := 20) rfl)) (hw _ (List.mem_of_getElem? (i := 2) rfl)) (by decide) (by decide)) q108a q108c (g := (mkF m 34 #[.val (.int p0), .val (.int v2), .val (.ref u_Verdict_SAFE_BY_KEPT_ANSWER)] [(.ref u_Verdict_SAFE_BY_KEPT_ANSWER)])) rfl (by rw [hml]; rfl) (Steps.refl _) (argsL := []) (rest := []) (lenOf pd3 rfl) rfl (by show 2 * 0 + _ ≤ _; exact Nat.le_of_eq rfl) (hb hby at_34) (fun _ _ => ⟨rfl, e107, (by decide : 0 + 0 ≤ _), (by decide : 0 + 0 ≤ _)⟩)
    dsimp only [Pt.U, Pt.locs, Pt.cells, Pt.slots] at X108 l108 y108 z108 st108 hQ108
    subst l108 y108 z108
    obtain ⟨rfl, N108q, e108⟩ := hQ108
    have N108 := Fr.app N106 N108q
    obtain ⟨v6, hv6⟩ : ∃ z : Int32, z = (if (nar .boolean (0 : Int32)) = v2 then (1 : Int32) else (0 : Int32)) := ⟨_, rfl⟩
    obtain ⟨v7, hv7⟩ : ∃ z : Int32, z = (if (nar .boolean (1 : Int32)) = (0 : Int32) then (0 : Int32) else v6) := ⟨_, rfl⟩
    obtain ⟨T116, lc116, X116, N116, e116, st116⟩ := own_mrg (n0 := n0) (h := h0) (g := (mkF m 37 #[.val (.int p0), .val (.int v2), .val (.ref u_Verdict_SAFE_BY_KEPT_ANSWER)] [(.int (nar .boolean (1 : Int32)))])) (g' := (mkF m 60 #[.val (.int p0), .val (.int v2), .val (.ref u_Verdict_SAFE_BY_KEPT_ANSWER)] [(.int v7)])) X108 (by
      by_cases hc37_4 : (nar .boolean (1 : Int32)) = (0 : Int32)
      · have hgo109 : ∀ t, Steps p.tables e below (T108.setTop (mkF m 60 #[.val (.int p0), .val (.int v2), .val (.ref u_Verdict_SAFE_BY_KEPT_ANSWER)] [(.int (0 : Int32))])) t → Steps p.tables e below (T108.setTop (mkF m 37 #[.val (.int p0), .val (.int v2), .val (.ref u_Verdict_SAFE_BY_KEPT_ANSWER)] [(.int (nar .boolean (1 : Int32)))])) t := by
          intro t kt
          show Steps p.tables e below (T108.setTop (mkF m 37 #[.val (.int p0), .val (.int v2), .val (.ref u_Verdict_SAFE_BY_KEPT_ANSWER)] [(.int (nar .boolean (1 : Int32)))])) _
          refine XS.ifYes X108.here hx rfl (pc0 := 37) (pc' := 59) rfl (hb hby at_37) rfl ((if0 _ _).trans (teq hc37_4).1) (by decide) (by decide) ?_
          show Steps p.tables e below (T108.setTop (mkF m 59 #[.val (.int p0), .val (.int v2), .val (.ref u_Verdict_SAFE_BY_KEPT_ANSWER)] [])) _
          refine XS.iconst X108.here hx rfl (hb hby at_59) ?_
          exact kt
        refine own_arm hgo109 ?_
        exact own_armEnd X108 N108 e108 (by rw [hv7.trans (if_pos hc37_4)])
      · obtain ⟨cq110, kq110, q110a, q110b, q110c⟩ := isOf hZ e108 E_u_Verdict_SAFE_BY_KEPT_ANSWER
        obtain ⟨_, _, ⟨T110, L110, k110, n110⟩, -, X110, ⟨Lc110, hQ110, l110, y110, z110⟩, st110⟩ := X108.virtualBack hx (y := (⟨"com/example/canonic/canonic/Verdict", "requested", "()Z"⟩ : MethodName)) (z := (⟨"com/example/canonic/canonic/Verdict", "requested", "()Z"⟩ : MethodName)) hown (mvT hZ (hw _ (List.mem_of_getElem? (i := 23) rfl))) (mvT hZ (hw _ (List.mem_of_getElem? (i := 24) rfl))) (notFace_of_selects (args := #[]) (mvT hZ (hw _ (List.mem_of_getElem? (i := 26) rfl)))) (mvT hZ (hw _ (List.mem_of_getElem? (i := 26) rfl))) (mvT hZ (hw _ (List.mem_of_getElem? (i := 25) rfl))) (by decide) (backOf (W := 0) (rm4 l Z a0 hw [] u_Verdict_SAFE_BY_KEPT_ANSWER (0 : Int32) h0 n0 Z0 F_requested_u_Verdict_SAFE_BY_KEPT_ANSWER) hZ (hw _ (List.mem_of_getElem? (i := 27) rfl)) (hw _ (List.mem_of_getElem? (i := 2) rfl)) (by decide) (by decide)) q110a q110c (g := (mkF m 41 #[.val (.int p0), .val (.int v2), .val (.ref u_Verdict_SAFE_BY_KEPT_ANSWER)] [(.ref u_Verdict_SAFE_BY_KEPT_ANSWER)])) rfl (by rw [hml]; rfl) (Steps.refl _) (argsL := []) (rest := []) (lenOf pd3 rfl) rfl (by show 2 * 0 + _ ≤ _; exact Nat.le_of_eq rfl) (hb hby at_41) (fun _ _ => ⟨rfl, e108, (by decide : 0 + 0 ≤ _), (by decide : 0 + 0 ≤ _)⟩)
        dsimp only [Pt.U, Pt.locs, Pt.cells, Pt.slots] at X110 l110 y110 z110 st110 hQ110
        subst l110 y110 z110
        obtain ⟨rfl, N110q, e110⟩ := hQ110
        have N110 := Fr.app N108 N110q
        obtain ⟨T114, lc114, X114, N114, e114, st114⟩ := own_mrg (n0 := n0) (h := h0) (g := (mkF m 45 #[.val (.int p0), .val (.int v2), .val (.ref u_Verdict_SAFE_BY_KEPT_ANSWER)] [(.int v2), (.int (nar .boolean (0 : Int32)))])) (g' := (mkF m 60 #[.val (.int p0), .val (.int v2), .val (.ref u_Verdict_SAFE_BY_KEPT_ANSWER)] [(.int v6)])) X110 (by
          by_cases hc45_5 : (nar .boolean (0 : Int32)) = v2
          · obtain ⟨cq111, kq111, q111a, q111b, q111c⟩ := isOf hZ e110 E_u_Verdict_SAFE_BY_KEPT_ANSWER
            obtain ⟨_, _, ⟨T111, L111, k111, n111⟩, -, X111, ⟨Lc111, hQ111, l111, y111, z111⟩, st111⟩ := X110.virtualBack hx (y := (⟨"com/example/canonic/canonic/Verdict", "problem", "()Ljava/lang/String;"⟩ : MethodName)) (z := (⟨"com/example/canonic/canonic/Verdict", "problem", "()Ljava/lang/String;"⟩ : MethodName)) hown (mvT hZ (hw _ (List.mem_of_getElem? (i := 30) rfl))) (mvT hZ (hw _ (List.mem_of_getElem? (i := 31) rfl))) (notFace_of_selects (args := #[]) (mvT hZ (hw _ (List.mem_of_getElem? (i := 33) rfl)))) (mvT hZ (hw _ (List.mem_of_getElem? (i := 33) rfl))) (mvT hZ (hw _ (List.mem_of_getElem? (i := 32) rfl))) (by decide) (backOf (W := 0) (rm5 l Z a0 hw [] u_Verdict_SAFE_BY_KEPT_ANSWER h0 n0 Z0 F_problem_u_Verdict_SAFE_BY_KEPT_ANSWER) hZ (hw _ (List.mem_of_getElem? (i := 34) rfl)) (hw _ (List.mem_of_getElem? (i := 2) rfl)) (by decide) (by decide)) q111a q111c (g := (mkF m 49 #[.val (.int p0), .val (.int v2), .val (.ref u_Verdict_SAFE_BY_KEPT_ANSWER)] [(.ref u_Verdict_SAFE_BY_KEPT_ANSWER)])) rfl (by rw [hml]; rfl) (Steps.refl _) (argsL := []) (rest := []) (lenOf pd4 rfl) rfl (by show 2 * 0 + _ ≤ _; exact Nat.le_of_eq rfl) (hb hby at_49) (fun _ _ => ⟨rfl, e110, (by decide : 0 + 0 ≤ _), (by decide : 0 + 0 ≤ _)⟩)
            dsimp only [Pt.U, Pt.locs, Pt.cells, Pt.slots] at X111 l111 y111 z111 st111 hQ111
            subst l111 y111 z111
            obtain ⟨rfl, N111q, e111⟩ := hQ111
            have N111 := Fr.app N110 N111q
            have hgo112 : ∀ t, Steps p.tables e below (T111.setTop (mkF m 60 #[.val (.int p0), .val (.int v2), .val (.ref u_Verdict_SAFE_BY_KEPT_ANSWER)] [(.int (1 : Int32))])) t → Steps p.tables e below (T110.setTop (mkF m 45 #[.val (.int p0), .val (.int v2), .val (.ref u_Verdict_SAFE_BY_KEPT_ANSWER)] [(.int v2), (.int (nar .boolean (0 : Int32)))])) t := by
              intro t kt
              show Steps p.tables e below (T110.setTop (mkF m 45 #[.val (.int p0), .val (.int v2), .val (.ref u_Verdict_SAFE_BY_KEPT_ANSWER)] [(.int v2), (.int (nar .boolean (0 : Int32)))])) _
              refine XS.icmpNo X110.here hx rfl (hb hby at_45) rfl (teq hc45_5).2 ?_
              show Steps p.tables e below (T110.setTop (mkF m 48 #[.val (.int p0), .val (.int v2), .val (.ref u_Verdict_SAFE_BY_KEPT_ANSWER)] [])) _
              refine XS.aloadN X110.here hx rfl (hb hby at_48) rfl rfl ?_
              show Steps p.tables e below (T110.setTop (mkF m 49 #[.val (.int p0), .val (.int v2), .val (.ref u_Verdict_SAFE_BY_KEPT_ANSWER)] [(.ref u_Verdict_SAFE_BY_KEPT_ANSWER)])) _
              refine st111.trans ?_
              show Steps p.tables e below (T111.setTop (mkF m 52 #[.val (.int p0), .val (.int v2), .val (.ref u_Verdict_SAFE_BY_KEPT_ANSWER)] [.null])) _
              refine XS.ifnonnullNo X111.here hx rfl (hb hby at_52) rfl ?_
              show Steps p.tables e below (T111.setTop (mkF m 55 #[.val (.int p0), .val (.int v2), .val (.ref u_Verdict_SAFE_BY_KEPT_ANSWER)] [])) _
              refine XS.iconst X111.here hx rfl (hb hby at_55) ?_
              show Steps p.tables e below (T111.setTop (mkF m 56 #[.val (.int p0), .val (.int v2), .val (.ref u_Verdict_SAFE_BY_KEPT_ANSWER)] [(.int (1 : Int32))])) _
              refine XS.goto X111.here hx rfl (pc0 := 56) (pc' := 60) rfl (hb hby at_56) (by decide) (by decide) ?_
              exact kt
            refine own_arm hgo112 ?_
            exact own_armEnd X111 N111 e111 (by rw [hv6.trans (if_pos hc45_5)])
          · have hgo113 : ∀ t, Steps p.tables e below (T110.setTop (mkF m 60 #[.val (.int p0), .val (.int v2), .val (.ref u_Verdict_SAFE_BY_KEPT_ANSWER)] [(.int (0 : Int32))])) t → Steps p.tables e below (T110.setTop (mkF m 45 #[.val (.int p0), .val (.int v2), .val (.ref u_Verdict_SAFE_BY_KEPT_ANSWER)] [(.int v2), (.int (nar .boolean (0 : Int32)))])) t := by
              intro t kt
              show Steps p.tables e below (T110.setTop (mkF m 45 #[.val (.int p0), .val (.int v2), .val (.ref u_Verdict_SAFE_BY_KEPT_ANSWER)] [(.int v2), (.int (nar .boolean (0 : Int32)))])) _
              refine XS.icmpYes X110.here hx rfl (pc0 := 45) (pc' := 59) rfl (hb hby at_45) rfl (feq hc45_5).2 (by decide) (by decide) ?_
              show Steps p.tables e below (T110.setTop (mkF m 59 #[.val (.int p0), .val (.int v2), .val (.ref u_Verdict_SAFE_BY_KEPT_ANSWER)] [])) _
              refine XS.iconst X110.here hx rfl (hb hby at_59) ?_
              exact kt
            refine own_arm hgo113 ?_
            exact own_armEnd X110 N110 e110 (by rw [hv6.trans (if_neg hc45_5)]))
        have hgo115 : ∀ t, Steps p.tables e below (T114.setTop (mkF m 60 #[.val (.int p0), .val (.int v2), .val (.ref u_Verdict_SAFE_BY_KEPT_ANSWER)] [(.int v6)])) t → Steps p.tables e below (T108.setTop (mkF m 37 #[.val (.int p0), .val (.int v2), .val (.ref u_Verdict_SAFE_BY_KEPT_ANSWER)] [(.int (nar .boolean (1 : Int32)))])) t := by
          intro t kt
          show Steps p.tables e below (T108.setTop (mkF m 37 #[.val (.int p0), .val (.int v2), .val (.ref u_Verdict_SAFE_BY_KEPT_ANSWER)] [(.int (nar .boolean (1 : Int32)))])) _
          refine XS.ifNo X108.here hx rfl (hb hby at_37) rfl ((if0 _ _).trans (feq hc37_4).1) ?_
          show Steps p.tables e below (T108.setTop (mkF m 40 #[.val (.int p0), .val (.int v2), .val (.ref u_Verdict_SAFE_BY_KEPT_ANSWER)] [])) _
          refine XS.aloadN X108.here hx rfl (hb hby at_40) rfl rfl ?_
          show Steps p.tables e below (T108.setTop (mkF m 41 #[.val (.int p0), .val (.int v2), .val (.ref u_Verdict_SAFE_BY_KEPT_ANSWER)] [(.ref u_Verdict_SAFE_BY_KEPT_ANSWER)])) _
          refine st110.trans ?_
          show Steps p.tables e below (T110.setTop (mkF m 44 #[.val (.int p0), .val (.int v2), .val (.ref u_Verdict_SAFE_BY_KEPT_ANSWER)] [(.int (nar .boolean (0 : Int32)))])) _
          refine XS.iloadN X110.here hx rfl (hb hby at_44) rfl ?_
          show Steps p.tables e below (T110.setTop (mkF m 45 #[.val (.int p0), .val (.int v2), .val (.ref u_Verdict_SAFE_BY_KEPT_ANSWER)] [(.int v2), (.int (nar .boolean (0 : Int32)))])) _
          refine st114 _ ?_
          exact kt
        refine own_arm hgo115 ?_
        exact own_armEnd X114 N114 e114 (by rw [hv7.trans (if_neg hc37_4)]))
    have hgo117 : ∀ t, Steps p.tables e below (T116.setTop (mkF m 60 #[.val (.int p0), .val (.int v2), .val (.ref u_Verdict_SAFE_BY_KEPT_ANSWER)] [(.int v7)])) t → Steps p.tables e below (T103.setTop (mkF m 13 #[.val (.int p0), .val (.int v2), .unset] [(.int v2)])) t := by
      intro t kt
      show Steps p.tables e below (T103.setTop (mkF m 13 #[.val (.int p0), .val (.int v2), .unset] [(.int v2)])) _
      refine st105 _ ?_
      show Steps p.tables e below (T105.setTop (mkF m 16 #[.val (.int p0), .val (.int v2), .unset] [(.ref u_Verdict_SAFE_BY_KEPT_ANSWER)])) _
      refine XS.astoreN X105.here hx rfl (hb hby at_16) rfl rfl (l' := #[.val (.int p0), .val (.int v2), .val (.ref u_Verdict_SAFE_BY_KEPT_ANSWER)]) rfl ?_
      show Steps p.tables e below (T105.setTop (mkF m 17 #[.val (.int p0), .val (.int v2), .val (.ref u_Verdict_SAFE_BY_KEPT_ANSWER)] [])) _
      refine XS.aloadN X105.here hx rfl (hb hby at_17) rfl rfl ?_
      show Steps p.tables e below (T105.setTop (mkF m 18 #[.val (.int p0), .val (.int v2), .val (.ref u_Verdict_SAFE_BY_KEPT_ANSWER)] [(.ref u_Verdict_SAFE_BY_KEPT_ANSWER)])) _
      refine XS.ifnonnullYes X105.here hx rfl (pc0 := 18) (pc' := 23) rfl (hb hby at_18) rfl (by decide) (by decide) ?_
      show Steps p.tables e below (T105.setTop (mkF m 23 #[.val (.int p0), .val (.int v2), .val (.ref u_Verdict_SAFE_BY_KEPT_ANSWER)] [])) _
      refine XS.aloadN X105.here hx rfl (hb hby at_23) rfl rfl ?_
      show Steps p.tables e below (T105.setTop (mkF m 24 #[.val (.int p0), .val (.int v2), .val (.ref u_Verdict_SAFE_BY_KEPT_ANSWER)] [(.ref u_Verdict_SAFE_BY_KEPT_ANSWER)])) _
      refine st106.trans ?_
      show Steps p.tables e below (T106.setTop (mkF m 27 #[.val (.int p0), .val (.int v2), .val (.ref u_Verdict_SAFE_BY_KEPT_ANSWER)] [(.ref u_Verdict_Kind_SAFE)])) _
      refine st107 _ ?_
      show Steps p.tables e below (T107.setTop (mkF m 30 #[.val (.int p0), .val (.int v2), .val (.ref u_Verdict_SAFE_BY_KEPT_ANSWER)] [(.ref u_Verdict_Kind_SAFE), (.ref u_Verdict_Kind_SAFE)])) _
      refine Jvm.RoadKit.acmp (g := (mkF m 30 #[.val (.int p0), .val (.int v2), .val (.ref u_Verdict_SAFE_BY_KEPT_ANSWER)] [(.ref u_Verdict_Kind_SAFE), (.ref u_Verdict_Kind_SAFE)])) X107 hx rfl rfl rfl (pc0 := 30) (pc' := 33) (same := true) rfl (hb hby at_30) rfl (decide_eq_true (congrArg Value.ref (rfl : u_Verdict_Kind_SAFE = u_Verdict_Kind_SAFE))) (by decide) (by decide) ?_
      show Steps p.tables e below (T107.setTop (mkF m 33 #[.val (.int p0), .val (.int v2), .val (.ref u_Verdict_SAFE_BY_KEPT_ANSWER)] [])) _
      refine XS.aloadN X107.here hx rfl (hb hby at_33) rfl rfl ?_
      show Steps p.tables e below (T107.setTop (mkF m 34 #[.val (.int p0), .val (.int v2), .val (.ref u_Verdict_SAFE_BY_KEPT_ANSWER)] [(.ref u_Verdict_SAFE_BY_KEPT_ANSWER)])) _
      refine st108.trans ?_
      show Steps p.tables e below (T108.setTop (mkF m 37 #[.val (.int p0), .val (.int v2), .val (.ref u_Verdict_SAFE_BY_KEPT_ANSWER)] [(.int (nar .boolean (1 : Int32)))])) _
      refine st116 _ ?_
      exact kt
    refine own_go hgo117 ?_
    have hz118 : v7 = 1 := own_leaf0 (p0 := p0) (u_Verdict_SAFE_BY_KEPT_ANSWER := u_Verdict_SAFE_BY_KEPT_ANSWER) (u_Verdict_Kind_SAFE := u_Verdict_Kind_SAFE) (u_Verdict_SAFE_BY_REQUEST := u_Verdict_SAFE_BY_REQUEST) hv2 hv6 hv7 hs13_3
    exact own_retZ X116 hx Bd.returns Bd.notSynchronized (hb hby at_60) (by decide) (by decide) (Or.inr hz118) ⟨by rw [hz118], N116⟩
  · obtain ⟨_, _, ⟨T119, L119, k119, n119⟩, -, X119, ⟨Lc119, hQ119, l119, y119, z119⟩, st119⟩ := Jvm.LawKit.callS X103 hx (y := (⟨"com/example/canonic/canonic/Verdict", "safeAfterMatch", "(Z)Lcom/example/canonic/canonic/Verdict;"⟩ : MethodName)) hown (mvT hZ (hw _ (List.mem_of_getElem? (i := 0) rfl))) (mvT hZ (hw _ (List.mem_of_getElem? (i := 1) rfl))) (mvT hZ (hw _ (List.mem_of_getElem? (i := 2) rfl))) (mvT hZ (hw _ (List.mem_of_getElem? (i := 3) rfl))) (by decide) (backOf (W := 0) (rm1b l Z a0 hw [] v2 u_Verdict_SAFE_BY_REQUEST h0 n0 Z0 (by first | assumption | decide : ¬ (v2 = (0 : Int32))) S_u_Verdict_SAFE_BY_REQUEST) hZ (hw _ (List.mem_of_getElem? (i := 3) rfl)) (hw _ (List.mem_of_getElem? (i := 2) rfl)) (by decide) (by decide)) (g := (mkF m 13 #[.val (.int p0), .val (.int v2), .unset] [(.int v2)])) rfl (by rw [hml]; rfl) (argsL := [(.int v2)]) (rest := []) (lenOf pd1 rfl) rfl (by show 2 * 0 + _ ≤ _; exact Nat.le_of_eq rfl) (hb hby at_13) (fun _ _ => ⟨rfl, e103, (by decide : 0 + 0 ≤ _), (by decide : 0 + 0 ≤ _)⟩)
    dsimp only [Pt.U, Pt.locs, Pt.cells, Pt.slots] at X119 l119 y119 z119 st119 hQ119
    subst l119 y119 z119
    obtain ⟨rfl, N119q, e119⟩ := hQ119
    have N119 := Fr.app N103 N119q
    obtain ⟨cq120, kq120, q120a, q120b, q120c⟩ := isOf hZ e119 E_u_Verdict_SAFE_BY_REQUEST
    obtain ⟨_, _, ⟨T120, L120, k120, n120⟩, -, X120, ⟨Lc120, hQ120, l120, y120, z120⟩, st120⟩ := X119.virtualBack hx (y := (⟨"com/example/canonic/canonic/Verdict", "kind", "()Lcom/example/canonic/canonic/Verdict$Kind;"⟩ : MethodName)) (z := (⟨"com/example/canonic/canonic/Verdict", "kind", "()Lcom/example/canonic/canonic/Verdict$Kind;"⟩ : MethodName)) hown (mvT hZ (hw _ (List.mem_of_getElem? (i := 6) rfl))) (mvT hZ (hw _ (List.mem_of_getElem? (i := 7) rfl))) (notFace_of_selects (args := #[]) (mvT hZ (hw _ (List.mem_of_getElem? (i := 9) rfl)))) (mvT hZ (hw _ (List.mem_of_getElem? (i := 9) rfl))) (mvT hZ (hw _ (List.mem_of_getElem? (i := 8) rfl))) (by decide) (backOf (W := 0) (rm2 l Z a0 hw [] u_Verdict_SAFE_BY_REQUEST u_Verdict_Kind_SAFE h0 n0 Z0 F_kind_u_Verdict_SAFE_BY_REQUEST) hZ (hw _ (List.mem_of_getElem? (i := 10) rfl)) (hw _ (List.mem_of_getElem? (i := 2) rfl)) (by decide) (by decide)) q120a q120c (g := (mkF m 24 #[.val (.int p0), .val (.int v2), .val (.ref u_Verdict_SAFE_BY_REQUEST)] [(.ref u_Verdict_SAFE_BY_REQUEST)])) rfl (by rw [hml]; rfl) (Steps.refl _) (argsL := []) (rest := []) (lenOf pd2 rfl) rfl (by show 2 * 0 + _ ≤ _; exact Nat.le_of_eq rfl) (hb hby at_24) (fun _ _ => ⟨rfl, e119, (by decide : 0 + 0 ≤ _), (by decide : 0 + 0 ≤ _)⟩)
    dsimp only [Pt.U, Pt.locs, Pt.cells, Pt.slots] at X120 l120 y120 z120 st120 hQ120
    subst l120 y120 z120
    obtain ⟨rfl, N120q, e120⟩ := hQ120
    have N120 := Fr.app N119 N120q
    obtain ⟨T121, X121, e121, st121⟩ := getS2 X120 hx hZ hown (host := "") (Or.inl (hw _ (List.mem_of_getElem? (i := 15) rfl))) Via.refl e120 S_u_Verdict_Kind_SAFE (g := (mkF m 27 #[.val (.int p0), .val (.int v2), .val (.ref u_Verdict_SAFE_BY_REQUEST)] [(.ref u_Verdict_Kind_SAFE)])) rfl (hb hby at_27)
    obtain ⟨cq122, kq122, q122a, q122b, q122c⟩ := isOf hZ e121 E_u_Verdict_SAFE_BY_REQUEST
    obtain ⟨_, _, ⟨T122, L122, k122, n122⟩, -, X122, ⟨Lc122, hQ122, l122, y122, z122⟩, st122⟩ := X121.virtualBack hx (y := (⟨"com/example/canonic/canonic/Verdict", "matched", "()Z"⟩ : MethodName)) (z := (⟨"com/example/canonic/canonic/Verdict", "matched", "()Z"⟩ : MethodName)) hown (mvT hZ (hw _ (List.mem_of_getElem? (i := 16) rfl))) (mvT hZ (hw _ (List.mem_of_getElem? (i := 17) rfl))) (notFace_of_selects (args := #[]) (mvT hZ (hw _ (List.mem_of_getElem? (i := 19) rfl)))) (mvT hZ (hw _ (List.mem_of_getElem? (i := 19) rfl))) (mvT hZ (hw _ (List.mem_of_getElem? (i := 18) rfl))) (by decide) (backOf (W := 0) (rm3 l Z a0 hw [] u_Verdict_SAFE_BY_REQUEST (1 : Int32) h0 n0 Z0 F_matched_u_Verdict_SAFE_BY_REQUEST) hZ (hw _ (List.mem_of_getElem? (i := 20) rfl)) (hw _ (List.mem_of_getElem? (i := 2) rfl)) (by decide) (by decide)) q122a q122c (g := (mkF m 34 #[.val (.int p0), .val (.int v2), .val (.ref u_Verdict_SAFE_BY_REQUEST)] [(.ref u_Verdict_SAFE_BY_REQUEST)])) rfl (by rw [hml]; rfl) (Steps.refl _) (argsL := []) (rest := []) (lenOf pd3 rfl) rfl (by show 2 * 0 + _ ≤ _; exact Nat.le_of_eq rfl) (hb hby at_34) (fun _ _ => ⟨rfl, e121, (by decide : 0 + 0 ≤ _), (by decide : 0 + 0 ≤ _)⟩)
    dsimp only [Pt.U, Pt.locs, Pt.cells, Pt.slots] at X122 l122 y122 z122 st122 hQ122
    subst l122 y122 z122
    obtain ⟨rfl, N122q, e122⟩ := hQ122
    have N122 := Fr.app N120 N122q
    obtain ⟨v10, hv10⟩ : ∃ z : Int32, z = (if (nar .boolean (1 : Int32)) = v2 then (1 : Int32) else (0 : Int32)) := ⟨_, rfl⟩
    obtain ⟨v11, hv11⟩ : ∃ z : Int32, z = (if (nar .boolean (1 : Int32)) = (0 : Int32) then (0 : Int32) else v10) := ⟨_, rfl⟩
    obtain ⟨T130, lc130, X130, N130, e130, st130⟩ := own_mrg (n0 := n0) (h := h0) (g := (mkF m 37 #[.val (.int p0), .val (.int v2), .val (.ref u_Verdict_SAFE_BY_REQUEST)] [(.int (nar .boolean (1 : Int32)))])) (g' := (mkF m 60 #[.val (.int p0), .val (.int v2), .val (.ref u_Verdict_SAFE_BY_REQUEST)] [(.int v11)])) X122 (by
      by_cases hc37_8 : (nar .boolean (1 : Int32)) = (0 : Int32)
      · have hgo123 : ∀ t, Steps p.tables e below (T122.setTop (mkF m 60 #[.val (.int p0), .val (.int v2), .val (.ref u_Verdict_SAFE_BY_REQUEST)] [(.int (0 : Int32))])) t → Steps p.tables e below (T122.setTop (mkF m 37 #[.val (.int p0), .val (.int v2), .val (.ref u_Verdict_SAFE_BY_REQUEST)] [(.int (nar .boolean (1 : Int32)))])) t := by
          intro t kt
          show Steps p.tables e below (T122.setTop (mkF m 37 #[.val (.int p0), .val (.int v2), .val (.ref u_Verdict_SAFE_BY_REQUEST)] [(.int (nar .boolean (1 : Int32)))])) _
          refine XS.ifYes X122.here hx rfl (pc0 := 37) (pc' := 59) rfl (hb hby at_37) rfl ((if0 _ _).trans (teq hc37_8).1) (by decide) (by decide) ?_
          show Steps p.tables e below (T122.setTop (mkF m 59 #[.val (.int p0), .val (.int v2), .val (.ref u_Verdict_SAFE_BY_REQUEST)] [])) _
          refine XS.iconst X122.here hx rfl (hb hby at_59) ?_
          exact kt
        refine own_arm hgo123 ?_
        exact own_armEnd X122 N122 e122 (by rw [hv11.trans (if_pos hc37_8)])
      · obtain ⟨cq124, kq124, q124a, q124b, q124c⟩ := isOf hZ e122 E_u_Verdict_SAFE_BY_REQUEST
        obtain ⟨_, _, ⟨T124, L124, k124, n124⟩, -, X124, ⟨Lc124, hQ124, l124, y124, z124⟩, st124⟩ := X122.virtualBack hx (y := (⟨"com/example/canonic/canonic/Verdict", "requested", "()Z"⟩ : MethodName)) (z := (⟨"com/example/canonic/canonic/Verdict", "requested", "()Z"⟩ : MethodName)) hown (mvT hZ (hw _ (List.mem_of_getElem? (i := 23) rfl))) (mvT hZ (hw _ (List.mem_of_getElem? (i := 24) rfl))) (notFace_of_selects (args := #[]) (mvT hZ (hw _ (List.mem_of_getElem? (i := 26) rfl)))) (mvT hZ (hw _ (List.mem_of_getElem? (i := 26) rfl))) (mvT hZ (hw _ (List.mem_of_getElem? (i := 25) rfl))) (by decide) (backOf (W := 0) (rm4 l Z a0 hw [] u_Verdict_SAFE_BY_REQUEST (1 : Int32) h0 n0 Z0 F_requested_u_Verdict_SAFE_BY_REQUEST) hZ (hw _ (List.mem_of_getElem? (i := 27) rfl)) (hw _ (List.mem_of_getElem? (i := 2) rfl)) (by decide) (by decide)) q124a q124c (g := (mkF m 41 #[.val (.int p0), .val (.int v2), .val (.ref u_Verdict_SAFE_BY_REQUEST)] [(.ref u_Verdict_SAFE_BY_REQUEST)])) rfl (by rw [hml]; rfl) (Steps.refl _) (argsL := []) (rest := []) (lenOf pd3 rfl) rfl (by show 2 * 0 + _ ≤ _; exact Nat.le_of_eq rfl) (hb hby at_41) (fun _ _ => ⟨rfl, e122, (by decide : 0 + 0 ≤ _), (by decide : 0 + 0 ≤ _)⟩)
        dsimp only [Pt.U, Pt.locs, Pt.cells, Pt.slots] at X124 l124 y124 z124 st124 hQ124
        subst l124 y124 z124
        obtain ⟨rfl, N124q, e124⟩ := hQ124
        have N124 := Fr.app N122 N124q
        obtain ⟨T128, lc128, X128, N128, e128, st128⟩ := own_mrg (n0 := n0) (h := h0) (g := (mkF m 45 #[.val (.int p0), .val (.int v2), .val (.ref u_Verdict_SAFE_BY_REQUEST)] [(.int v2), (.int (nar .boolean (1 : Int32)))])) (g' := (mkF m 60 #[.val (.int p0), .val (.int v2), .val (.ref u_Verdict_SAFE_BY_REQUEST)] [(.int v10)])) X124 (by
          by_cases hc45_9 : (nar .boolean (1 : Int32)) = v2
          · obtain ⟨cq125, kq125, q125a, q125b, q125c⟩ := isOf hZ e124 E_u_Verdict_SAFE_BY_REQUEST
            obtain ⟨_, _, ⟨T125, L125, k125, n125⟩, -, X125, ⟨Lc125, hQ125, l125, y125, z125⟩, st125⟩ := X124.virtualBack hx (y := (⟨"com/example/canonic/canonic/Verdict", "problem", "()Ljava/lang/String;"⟩ : MethodName)) (z := (⟨"com/example/canonic/canonic/Verdict", "problem", "()Ljava/lang/String;"⟩ : MethodName)) hown (mvT hZ (hw _ (List.mem_of_getElem? (i := 30) rfl))) (mvT hZ (hw _ (List.mem_of_getElem? (i := 31) rfl))) (notFace_of_selects (args := #[]) (mvT hZ (hw _ (List.mem_of_getElem? (i := 33) rfl)))) (mvT hZ (hw _ (List.mem_of_getElem? (i := 33) rfl))) (mvT hZ (hw _ (List.mem_of_getElem? (i := 32) rfl))) (by decide) (backOf (W := 0) (rm5 l Z a0 hw [] u_Verdict_SAFE_BY_REQUEST h0 n0 Z0 F_problem_u_Verdict_SAFE_BY_REQUEST) hZ (hw _ (List.mem_of_getElem? (i := 34) rfl)) (hw _ (List.mem_of_getElem? (i := 2) rfl)) (by decide) (by decide)) q125a q125c (g := (mkF m 49 #[.val (.int p0), .val (.int v2), .val (.ref u_Verdict_SAFE_BY_REQUEST)] [(.ref u_Verdict_SAFE_BY_REQUEST)])) rfl (by rw [hml]; rfl) (Steps.refl _) (argsL := []) (rest := []) (lenOf pd4 rfl) rfl (by show 2 * 0 + _ ≤ _; exact Nat.le_of_eq rfl) (hb hby at_49) (fun _ _ => ⟨rfl, e124, (by decide : 0 + 0 ≤ _), (by decide : 0 + 0 ≤ _)⟩)
            dsimp only [Pt.U, Pt.locs, Pt.cells, Pt.slots] at X125 l125 y125 z125 st125 hQ125
            subst l125 y125 z125
            obtain ⟨rfl, N125q, e125⟩ := hQ125
            have N125 := Fr.app N124 N125q
            have hgo126 : ∀ t, Steps p.tables e below (T125.setTop (mkF m 60 #[.val (.int p0), .val (.int v2), .val (.ref u_Verdict_SAFE_BY_REQUEST)] [(.int (1 : Int32))])) t → Steps p.tables e below (T124.setTop (mkF m 45 #[.val (.int p0), .val (.int v2), .val (.ref u_Verdict_SAFE_BY_REQUEST)] [(.int v2), (.int (nar .boolean (1 : Int32)))])) t := by
              intro t kt
              show Steps p.tables e below (T124.setTop (mkF m 45 #[.val (.int p0), .val (.int v2), .val (.ref u_Verdict_SAFE_BY_REQUEST)] [(.int v2), (.int (nar .boolean (1 : Int32)))])) _
              refine XS.icmpNo X124.here hx rfl (hb hby at_45) rfl (teq hc45_9).2 ?_
              show Steps p.tables e below (T124.setTop (mkF m 48 #[.val (.int p0), .val (.int v2), .val (.ref u_Verdict_SAFE_BY_REQUEST)] [])) _
              refine XS.aloadN X124.here hx rfl (hb hby at_48) rfl rfl ?_
              show Steps p.tables e below (T124.setTop (mkF m 49 #[.val (.int p0), .val (.int v2), .val (.ref u_Verdict_SAFE_BY_REQUEST)] [(.ref u_Verdict_SAFE_BY_REQUEST)])) _
              refine st125.trans ?_
              show Steps p.tables e below (T125.setTop (mkF m 52 #[.val (.int p0), .val (.int v2), .val (.ref u_Verdict_SAFE_BY_REQUEST)] [.null])) _
              refine XS.ifnonnullNo X125.here hx rfl (hb hby at_52) rfl ?_
              show Steps p.tables e below (T125.setTop (mkF m 55 #[.val (.int p0), .val (.int v2), .val (.ref u_Verdict_SAFE_BY_REQUEST)] [])) _
              refine XS.iconst X125.here hx rfl (hb hby at_55) ?_
              show Steps p.tables e below (T125.setTop (mkF m 56 #[.val (.int p0), .val (.int v2), .val (.ref u_Verdict_SAFE_BY_REQUEST)] [(.int (1 : Int32))])) _
              refine XS.goto X125.here hx rfl (pc0 := 56) (pc' := 60) rfl (hb hby at_56) (by decide) (by decide) ?_
              exact kt
            refine own_arm hgo126 ?_
            exact own_armEnd X125 N125 e125 (by rw [hv10.trans (if_pos hc45_9)])
          · have hgo127 : ∀ t, Steps p.tables e below (T124.setTop (mkF m 60 #[.val (.int p0), .val (.int v2), .val (.ref u_Verdict_SAFE_BY_REQUEST)] [(.int (0 : Int32))])) t → Steps p.tables e below (T124.setTop (mkF m 45 #[.val (.int p0), .val (.int v2), .val (.ref u_Verdict_SAFE_BY_REQUEST)] [(.int v2), (.int (nar .boolean (1 : Int32)))])) t := by
              intro t kt
              show Steps p.tables e below (T124.setTop (mkF m 45 #[.val (.int p0), .val (.int v2), .val (.ref u_Verdict_SAFE_BY_REQUEST)] [(.int v2), (.int (nar .boolean (1 : Int32)))])) _
              refine XS.icmpYes X124.here hx rfl (pc0 := 45) (pc' := 59) rfl (hb hby at_45) rfl (feq hc45_9).2 (by decide) (by decide) ?_
              show Steps p.tables e below (T124.setTop (mkF m 59 #[.val (.int p0), .val (.int v2), .val (.ref u_Verdict_SAFE_BY_REQUEST)] [])) _
              refine XS.iconst X124.here hx rfl (hb hby at_59) ?_
              exact kt
            refine own_arm hgo127 ?_
            exact own_armEnd X124 N124 e124 (by rw [hv10.trans (if_neg hc45_9)]))
        have hgo129 : ∀ t, Steps p.tables e below (T128.setTop (mkF m 60 #[.val (.int p0), .val (.int v2), .val (.ref u_Verdict_SAFE_BY_REQUEST)] [(.int v10)])) t → Steps p.tables e below (T122.setTop (mkF m 37 #[.val (.int p0), .val (.int v2), .val (.ref u_Verdict_SAFE_BY_REQUEST)] [(.int (nar .boolean (1 : Int32)))])) t := by
          intro t kt
          show Steps p.tables e below (T122.setTop (mkF m 37 #[.val (.int p0), .val (.int v2), .val (.ref u_Verdict_SAFE_BY_REQUEST)] [(.int (nar .boolean (1 : Int32)))])) _
          refine XS.ifNo X122.here hx rfl (hb hby at_37) rfl ((if0 _ _).trans (feq hc37_8).1) ?_
          show Steps p.tables e below (T122.setTop (mkF m 40 #[.val (.int p0), .val (.int v2), .val (.ref u_Verdict_SAFE_BY_REQUEST)] [])) _
          refine XS.aloadN X122.here hx rfl (hb hby at_40) rfl rfl ?_
          show Steps p.tables e below (T122.setTop (mkF m 41 #[.val (.int p0), .val (.int v2), .val (.ref u_Verdict_SAFE_BY_REQUEST)] [(.ref u_Verdict_SAFE_BY_REQUEST)])) _
          refine st124.trans ?_
          show Steps p.tables e below (T124.setTop (mkF m 44 #[.val (.int p0), .val (.int v2), .val (.ref u_Verdict_SAFE_BY_REQUEST)] [(.int (nar .boolean (1 : Int32)))])) _
          refine XS.iloadN X124.here hx rfl (hb hby at_44) rfl ?_
          show Steps p.tables e below (T124.setTop (mkF m 45 #[.val (.int p0), .val (.int v2), .val (.ref u_Verdict_SAFE_BY_REQUEST)] [(.int v2), (.int (nar .boolean (1 : Int32)))])) _
          refine st128 _ ?_
          exact kt
        refine own_arm hgo129 ?_
        exact own_armEnd X128 N128 e128 (by rw [hv11.trans (if_neg hc37_8)]))
    have hgo131 : ∀ t, Steps p.tables e below (T130.setTop (mkF m 60 #[.val (.int p0), .val (.int v2), .val (.ref u_Verdict_SAFE_BY_REQUEST)] [(.int v11)])) t → Steps p.tables e below (T103.setTop (mkF m 13 #[.val (.int p0), .val (.int v2), .unset] [(.int v2)])) t := by
      intro t kt
      show Steps p.tables e below (T103.setTop (mkF m 13 #[.val (.int p0), .val (.int v2), .unset] [(.int v2)])) _
      refine st119 _ ?_
      show Steps p.tables e below (T119.setTop (mkF m 16 #[.val (.int p0), .val (.int v2), .unset] [(.ref u_Verdict_SAFE_BY_REQUEST)])) _
      refine XS.astoreN X119.here hx rfl (hb hby at_16) rfl rfl (l' := #[.val (.int p0), .val (.int v2), .val (.ref u_Verdict_SAFE_BY_REQUEST)]) rfl ?_
      show Steps p.tables e below (T119.setTop (mkF m 17 #[.val (.int p0), .val (.int v2), .val (.ref u_Verdict_SAFE_BY_REQUEST)] [])) _
      refine XS.aloadN X119.here hx rfl (hb hby at_17) rfl rfl ?_
      show Steps p.tables e below (T119.setTop (mkF m 18 #[.val (.int p0), .val (.int v2), .val (.ref u_Verdict_SAFE_BY_REQUEST)] [(.ref u_Verdict_SAFE_BY_REQUEST)])) _
      refine XS.ifnonnullYes X119.here hx rfl (pc0 := 18) (pc' := 23) rfl (hb hby at_18) rfl (by decide) (by decide) ?_
      show Steps p.tables e below (T119.setTop (mkF m 23 #[.val (.int p0), .val (.int v2), .val (.ref u_Verdict_SAFE_BY_REQUEST)] [])) _
      refine XS.aloadN X119.here hx rfl (hb hby at_23) rfl rfl ?_
      show Steps p.tables e below (T119.setTop (mkF m 24 #[.val (.int p0), .val (.int v2), .val (.ref u_Verdict_SAFE_BY_REQUEST)] [(.ref u_Verdict_SAFE_BY_REQUEST)])) _
      refine st120.trans ?_
      show Steps p.tables e below (T120.setTop (mkF m 27 #[.val (.int p0), .val (.int v2), .val (.ref u_Verdict_SAFE_BY_REQUEST)] [(.ref u_Verdict_Kind_SAFE)])) _
      refine st121 _ ?_
      show Steps p.tables e below (T121.setTop (mkF m 30 #[.val (.int p0), .val (.int v2), .val (.ref u_Verdict_SAFE_BY_REQUEST)] [(.ref u_Verdict_Kind_SAFE), (.ref u_Verdict_Kind_SAFE)])) _
      refine Jvm.RoadKit.acmp (g := (mkF m 30 #[.val (.int p0), .val (.int v2), .val (.ref u_Verdict_SAFE_BY_REQUEST)] [(.ref u_Verdict_Kind_SAFE), (.ref u_Verdict_Kind_SAFE)])) X121 hx rfl rfl rfl (pc0 := 30) (pc' := 33) (same := true) rfl (hb hby at_30) rfl (decide_eq_true (congrArg Value.ref (rfl : u_Verdict_Kind_SAFE = u_Verdict_Kind_SAFE))) (by decide) (by decide) ?_
      show Steps p.tables e below (T121.setTop (mkF m 33 #[.val (.int p0), .val (.int v2), .val (.ref u_Verdict_SAFE_BY_REQUEST)] [])) _
      refine XS.aloadN X121.here hx rfl (hb hby at_33) rfl rfl ?_
      show Steps p.tables e below (T121.setTop (mkF m 34 #[.val (.int p0), .val (.int v2), .val (.ref u_Verdict_SAFE_BY_REQUEST)] [(.ref u_Verdict_SAFE_BY_REQUEST)])) _
      refine st122.trans ?_
      show Steps p.tables e below (T122.setTop (mkF m 37 #[.val (.int p0), .val (.int v2), .val (.ref u_Verdict_SAFE_BY_REQUEST)] [(.int (nar .boolean (1 : Int32)))])) _
      refine st130 _ ?_
      exact kt
    refine own_go hgo131 ?_
    have hz132 : v11 = 1 := own_leaf1 (p0 := p0) (u_Verdict_SAFE_BY_KEPT_ANSWER := u_Verdict_SAFE_BY_KEPT_ANSWER) (u_Verdict_Kind_SAFE := u_Verdict_Kind_SAFE) (u_Verdict_SAFE_BY_REQUEST := u_Verdict_SAFE_BY_REQUEST) hv2 hv10 hv11 hs13_3
    exact own_retZ X130 hx Bd.returns Bd.notSynchronized (hb hby at_60) (by decide) (by decide) (Or.inr hz132) ⟨by rw [hz132], N130⟩
set_option maxRecDepth 65536 in
set_option maxHeartbeats 40000000 in
theorem comes_1 {Post : Tables → Env → Array Value → State → Outcome → State → Prop} (hpost : ∀ tb e args s v u, (limb_1_1.after args s (.returned v) u = true ∧ limb_1_2.after args s (.returned v) u = true ∧ True) → FrameEnd s (.returned v) u (Jvm.fieldLocs frame_1_writes args s ++ Jvm.arrayLocs frame_1_arrays args s ++ Jvm.staticLocs frame_1_statics s) 0 0 → Post tb e args s (.returned v) u) :
    ArmFor flags0 classFile x code maxLocals ret World_1 tables_1 room_1 Calls_1 rest_1 Pre_1 Post := by
  intro l hfl _ _ p e ha hc hk s m args below hf hA hF happ hP
  obtain ⟨hcalls, hrest, hpre⟩ := hP
  obtain ⟨-, -, -, hnamed, -, -, -, hat⟩ := (Spec.applies_iff hf).mp happ
  obtain ⟨hg, hn⟩ := and_e (Cond.before_iff.mp (show (Jvm.Cond.and given_1 narrow_1).before args s = true from hpre))
  obtain ⟨gg1, gg2⟩ := and_e hg
  obtain ⟨gg3, gg4⟩ := and_e hn
  obtain ⟨gg5, gg6⟩ := and_e gg4
  obtain ⟨gg7, gg8⟩ := and_e gg6
  obtain ⟨gg9, gg10⟩ := and_e gg8
  obtain ⟨gg11, gg12⟩ := and_e gg10
  obtain ⟨gg13, gg14⟩ := and_e gg12
  obtain ⟨gg15, gg16⟩ := and_e gg14
  obtain ⟨gg17, gg18⟩ := and_e gg16
  obtain ⟨gg19, gg20⟩ := and_e gg18
  obtain ⟨gg21, gg22⟩ := and_e gg20
  obtain ⟨w0, rfl⟩ : ∃ w0 : Value, args = #[w0] := by
    have hs : args.size = 1 := by simpa [Cond.value, given_1] using gg1
    obtain ⟨L⟩ := args
    match L, hs with
    | [w0], _ => exact ⟨w0, rfl⟩
  have hw := fun d (hd : d ∈ tables_1) => atoms_spec (ws := Jvm.Cond.code x code maxLocals ret :: tables_1) hat d (List.mem_cons_of_mem _ hd)
  have hfit : Fit s := fun {y c} hc i hi => by
    obtain ⟨ha, rfl⟩ := Array.getElem?_eq_some_iff.mp hc
    have q := List.all_eq_true.mp ((Array.all_eq_true_iff_forall_mem.mp hF) _ (Array.getElem_mem ha)) i (List.mem_range.mpr hi)
    simpa [Array.getElem?_eq_getElem hi] using q
  obtain ⟨i0, ei0⟩ := is_v gg2
  obtain rfl : w0 = (.int i0) := Option.some.inj ei0
  obtain ⟨u_Verdict_SAFE_BY_KEPT_ANSWER, eu_Verdict_SAFE_BY_KEPT_ANSWER⟩ := exa_v gg3
  obtain ⟨u_Verdict_Kind_SAFE, eu_Verdict_Kind_SAFE⟩ := exa_v gg5
  obtain ⟨u_Verdict_SAFE_BY_REQUEST, eu_Verdict_SAFE_BY_REQUEST⟩ := exa_v gg15
  obtain ⟨n, o, h1, h2, h3, _, L, rfl, ⟨rfl, N⟩, hq⟩ := rm0 l s _ hw tables_1 i0 u_Verdict_SAFE_BY_KEPT_ANSWER u_Verdict_Kind_SAFE u_Verdict_SAFE_BY_REQUEST s.heap s.heap.size (Nat.le_refl _) (Sta.start eu_Verdict_SAFE_BY_KEPT_ANSWER (Or.inr ⟨(hw _ (List.mem_of_getElem? (i := 2) rfl)), (hw _ (List.mem_of_getElem? (i := 5) rfl))⟩)) (Exa.start eu_Verdict_SAFE_BY_KEPT_ANSWER gg3) (Sta.start eu_Verdict_Kind_SAFE (Or.inr ⟨(hw _ (List.mem_of_getElem? (i := 13) rfl)), (hw _ (List.mem_of_getElem? (i := 14) rfl))⟩)) (Exa.start eu_Verdict_Kind_SAFE gg5) (Sta.start eu_Verdict_SAFE_BY_REQUEST (Or.inr ⟨(hw _ (List.mem_of_getElem? (i := 2) rfl)), (hw _ (List.mem_of_getElem? (i := 38) rfl))⟩)) (Exa.start eu_Verdict_SAFE_BY_REQUEST gg15) (own_fldR eu_Verdict_SAFE_BY_KEPT_ANSWER eu_Verdict_Kind_SAFE gg7) (own_fldI eu_Verdict_SAFE_BY_KEPT_ANSWER gg9) (own_fldI eu_Verdict_SAFE_BY_KEPT_ANSWER gg11) (own_fldN eu_Verdict_SAFE_BY_KEPT_ANSWER gg13) (own_fldR eu_Verdict_SAFE_BY_REQUEST eu_Verdict_Kind_SAFE gg17) (own_fldI eu_Verdict_SAFE_BY_REQUEST gg19) (own_fldI eu_Verdict_SAFE_BY_REQUEST gg21) (own_fldN eu_Verdict_SAFE_BY_REQUEST gg22) p e ha hc hk s m _ below hf ((Spec.applies_iff_loose hf).mp happ).1 ⟨rfl, State.Warmed39.refl s, rfl⟩ trivial
  refine ⟨n, _, h1, h2, h3, hpost _ _ _ _ _ _ ⟨Cond.after_iff.mpr rfl, Cond.after_iff.mpr (eq_i res_at (Term.int_eval (1)) rfl), trivial⟩ ⟨hq.1, hq.2.1, (hq.2.2.sift fun y hy => Or.inr (N y hy)).mono (by decide) (by decide)⟩⟩
theorem main_1_1 : Claimed_1_1 := comes_1 fun _ _ _ _ _ _ h hF => ⟨h.1, hF⟩
theorem main_1_2 : Claimed_1_2 := comes_1 fun _ _ _ _ _ _ h hF => ⟨h.2.1, hF⟩
end Jvm.Pilot.@@N@@
namespace Jvm.Pilot.@@N@@
open Jvm Jvm.ClassFile Sem Op Lib Jvm.Free Jvm.Stand Jvm.Pilot.@@N@@.Jvm.D
/-! MADE BY PROGRAM (witnessworld.py) out of the Statement's table words and the real class files: 13 classes; the members and pool entries that the words name. The judged class is class 1, her method 1. -/
namespace start1
open Jvm.ClassFile
def u (s : String) : CpInfo := .utf8 (stringToUtf16 s)
/-- a pool by its gaps: so many unusable entries, then the entry; so many at the end -/
def gap : Nat → List CpInfo → List CpInfo
  | 0, r => r
  | n + 1, r => .unusable :: gap n r
def poolList (es : List (Nat × CpInfo)) (last : Nat) : List CpInfo := es.foldr (fun e r => gap e.1 (e.2 :: r)) (gap last [])
def pool (es : List (Nat × CpInfo)) (last : Nat) : Array CpInfo := ⟨poolList es last⟩
def fileOf (pool : Array CpInfo) (this : Nat) (attrs : Array Attribute := #[]) (ms : Array MethodInfo := #[]) (fl : Nat := 33) (sup : Nat := 0) (ifs : Array Nat := #[]) (fds : Array FieldInfo := #[]) : ClassFile where
  minorVersion := 0
  majorVersion := 65
  constantPool := pool
  accessFlags := fl
  thisClass := this
  superClass := sup
  interfaces := ifs
  fields := fds
  methods := ms
  attributes := attrs
def plain (name : String) (sup : Option ClassId) : Class where
  name := name
  kind := .ordinary
  loader := none
  accessFlags := 33
  super := sup
  interfaces := #[]
  cf := none
  fields := #[]
  methods := #[]
  instanceTypes := #[]
  staticTypes := #[]
  resolved := #[]
  callSites := []
  init := .initialized
  statics := none
  mirror := none

def pool0 : Array CpInfo := pool [(5, u "<init>"), (0, u "()V"), (1, .class_ 10), (1, u "java/lang/Object")] 113

def k0m0 : Method := { name := "<init>", desc := "()V", sig := { parameters := [], returnType := none }, accessFlags := 1, code := none }
/-- java/lang/Object -/
def k0 : Class := { plain "java/lang/Object" none with
  accessFlags := 33
  interfaces := #[]
  cf := some (fileOf pool0 8 #[] #[{ accessFlags := 1, nameIndex := 5, descriptorIndex := 6, attributes := #[] }] 33 0 #[] #[])
  fields := #[]
  methods := #[k0m0]
  instanceTypes := #[]
  staticTypes := #[]
  resolved := Array.replicate 124 none
  statics := none }

def pool1 : Array CpInfo := pool [(2, .class_ 4), (1, u "java/lang/Object"), (0, u "<init>"), (0, u "()V"), (0, .methodref 8 9), (0, .class_ 10), (0, .nameAndType 11 12), (0, u "com/example/canonic/canonic/Verdict"), (0, u "safeAfterMatch"), (0, u "(Z)Lcom/example/canonic/canonic/Verdict;"), (0, .methodref 8 14), (0, .nameAndType 15 16), (0, u "kind"), (0, u "()Lcom/example/canonic/canonic/Verdict$Kind;"), (0, .fieldref 18 19), (0, .class_ 20), (0, .nameAndType 21 22), (0, u "com/example/canonic/canonic/Verdict$Kind"), (0, u "SAFE"), (0, u "Lcom/example/canonic/canonic/Verdict$Kind;"), (0, .methodref 8 24), (0, .nameAndType 25 26), (0, u "matched"), (0, u "()Z"), (0, .methodref 8 28), (0, .nameAndType 29 26), (0, u "requested"), (0, .methodref 8 31), (0, .nameAndType 32 33), (0, u "problem"), (0, u "()Ljava/lang/String;"), (0, .class_ 35), (0, u "com/example/canonic/canonic/VerdictSafeAfterMatchPinLaw"), (2, u "law"), (0, u "(I)Z")] 5

def k1m0 : Method := { name := "<init>", desc := "()V", sig := { parameters := [], returnType := none }, accessFlags := 1, code := none }
def k1c1 : Code := { maxStack := 2, maxLocals := 3, code := code, exceptionTable := #[], attributes := #[] }
def k1m1 : Method := { name := "law", desc := "(I)Z", sig := { parameters := [.int], returnType := some .boolean }, accessFlags := 9, code := some k1c1 }
/-- com/example/canonic/canonic/VerdictSafeAfterMatchPinLaw -/
def k1 : Class := { plain "com/example/canonic/canonic/VerdictSafeAfterMatchPinLaw" (some 0) with
  accessFlags := 49
  interfaces := #[]
  cf := some (fileOf pool1 34 #[] #[{ accessFlags := 1, nameIndex := 5, descriptorIndex := 6, attributes := #[] }, { accessFlags := 9, nameIndex := 38, descriptorIndex := 39, attributes := #[] }] 49 2 #[] #[])
  fields := #[]
  methods := #[k1m0, k1m1]
  instanceTypes := #[]
  staticTypes := #[]
  resolved := Array.replicate 45 none
  statics := none }

def pool2 : Array CpInfo := pool [(2, .class_ 4), (1, u "java/lang/Object"), (2, .fieldref 8 9), (0, .class_ 10), (0, .nameAndType 11 12), (0, u "com/example/canonic/canonic/Verdict"), (0, u "kind"), (0, u "Lcom/example/canonic/canonic/Verdict$Kind;"), (2, u "lists"), (0, u "Ljava/util/Map;"), (0, .fieldref 8 18), (0, .nameAndType 19 20), (0, u "problem"), (0, u "Ljava/lang/String;"), (0, .fieldref 8 22), (0, .nameAndType 23 24), (0, u "matched"), (0, u "Z"), (0, .fieldref 8 26), (0, .nameAndType 27 24), (0, u "requested"), (2, u "SAFE"), (0, u "Lcom/example/canonic/canonic/Verdict;"), (0, .fieldref 8 33), (0, .nameAndType 34 31), (0, u "SAFE_BY_REQUEST"), (0, .fieldref 8 36), (0, .nameAndType 37 31), (0, u "SAFE_BY_KEPT_ANSWER"), (1, .class_ 41), (1, u "com/example/canonic/canonic/Verdict$Kind"), (63, u "safeAfterMatch"), (0, u "(Z)Lcom/example/canonic/canonic/Verdict;"), (8, u "()Lcom/example/canonic/canonic/Verdict$Kind;"), (0, u "()Z"), (3, u "()Ljava/lang/String;")] 29

def k2c0 : Code := { maxStack := 1, maxLocals := 1, code := prog_43_method_3_code, exceptionTable := #[], attributes := #[] }
def k2m0 : Method := { name := "safeAfterMatch", desc := "(Z)Lcom/example/canonic/canonic/Verdict;", sig := { parameters := [.boolean], returnType := some (.object "com/example/canonic/canonic/Verdict") }, accessFlags := 8, code := some k2c0 }
def k2c1 : Code := { maxStack := 1, maxLocals := 1, code := prog_43_method_7_code, exceptionTable := #[], attributes := #[] }
def k2m1 : Method := { name := "kind", desc := "()Lcom/example/canonic/canonic/Verdict$Kind;", sig := { parameters := [], returnType := some (.object "com/example/canonic/canonic/Verdict$Kind") }, accessFlags := 1, code := some k2c1 }
def k2c2 : Code := { maxStack := 1, maxLocals := 1, code := prog_43_method_8_code, exceptionTable := #[], attributes := #[] }
def k2m2 : Method := { name := "matched", desc := "()Z", sig := { parameters := [], returnType := some .boolean }, accessFlags := 1, code := some k2c2 }
def k2c3 : Code := { maxStack := 1, maxLocals := 1, code := prog_43_method_9_code, exceptionTable := #[], attributes := #[] }
def k2m3 : Method := { name := "requested", desc := "()Z", sig := { parameters := [], returnType := some .boolean }, accessFlags := 0, code := some k2c3 }
def k2c4 : Code := { maxStack := 1, maxLocals := 1, code := prog_43_method_12_code, exceptionTable := #[], attributes := #[] }
def k2m4 : Method := { name := "problem", desc := "()Ljava/lang/String;", sig := { parameters := [], returnType := some (.object "java/lang/String") }, accessFlags := 1, code := some k2c4 }
/-- com/example/canonic/canonic/Verdict -/
def k2 : Class := { plain "com/example/canonic/canonic/Verdict" (some 0) with
  accessFlags := 49
  interfaces := #[]
  cf := some (fileOf pool2 8 #[.nestMembers #[39]] #[{ accessFlags := 8, nameIndex := 105, descriptorIndex := 106, attributes := #[] }, { accessFlags := 1, nameIndex := 11, descriptorIndex := 115, attributes := #[] }, { accessFlags := 1, nameIndex := 23, descriptorIndex := 116, attributes := #[] }, { accessFlags := 0, nameIndex := 27, descriptorIndex := 116, attributes := #[] }, { accessFlags := 1, nameIndex := 19, descriptorIndex := 120, attributes := #[] }] 49 2 #[] #[{ accessFlags := 26, nameIndex := 30, descriptorIndex := 31, attributes := #[] }, { accessFlags := 26, nameIndex := 37, descriptorIndex := 31, attributes := #[] }, { accessFlags := 26, nameIndex := 34, descriptorIndex := 31, attributes := #[] }, { accessFlags := 18, nameIndex := 11, descriptorIndex := 12, attributes := #[] }, { accessFlags := 18, nameIndex := 15, descriptorIndex := 16, attributes := #[] }, { accessFlags := 18, nameIndex := 19, descriptorIndex := 20, attributes := #[] }, { accessFlags := 18, nameIndex := 23, descriptorIndex := 24, attributes := #[] }, { accessFlags := 18, nameIndex := 27, descriptorIndex := 24, attributes := #[] }])
  fields := #[{ name := "SAFE", type := (.object "com/example/canonic/canonic/Verdict"), accessFlags := 26, slot := 0, constantValue := 0 }, { name := "SAFE_BY_KEPT_ANSWER", type := (.object "com/example/canonic/canonic/Verdict"), accessFlags := 26, slot := 1, constantValue := 0 }, { name := "SAFE_BY_REQUEST", type := (.object "com/example/canonic/canonic/Verdict"), accessFlags := 26, slot := 2, constantValue := 0 }, { name := "kind", type := (.object "com/example/canonic/canonic/Verdict$Kind"), accessFlags := 18, slot := 0, constantValue := 0 }, { name := "lists", type := (.object "java/util/Map"), accessFlags := 18, slot := 1, constantValue := 0 }, { name := "problem", type := (.object "java/lang/String"), accessFlags := 18, slot := 2, constantValue := 0 }, { name := "matched", type := .boolean, accessFlags := 18, slot := 3, constantValue := 0 }, { name := "requested", type := .boolean, accessFlags := 18, slot := 4, constantValue := 0 }]
  methods := #[k2m0, k2m1, k2m2, k2m3, k2m4]
  instanceTypes := #[(.object "com/example/canonic/canonic/Verdict$Kind"), (.object "java/util/Map"), (.object "java/lang/String"), .boolean, .boolean]
  staticTypes := #[(.object "com/example/canonic/canonic/Verdict"), (.object "com/example/canonic/canonic/Verdict"), (.object "com/example/canonic/canonic/Verdict")]
  resolved := Array.replicate 150 none
  statics := some 0 }

def pool3 : Array CpInfo := pool [(1, .class_ 2), (0, u "java/lang/constant/Constable"), (0, .class_ 4), (0, u "java/lang/Object")] 6

/-- java/lang/constant/Constable -/
def k3 : Class := { plain "java/lang/constant/Constable" (some 0) with
  accessFlags := 1537
  interfaces := #[]
  cf := some (fileOf pool3 1 #[] #[] 1537 3 #[] #[])
  fields := #[]
  methods := #[]
  instanceTypes := #[]
  staticTypes := #[]
  resolved := Array.replicate 11 none
  statics := none }

def pool4 : Array CpInfo := pool [(1, .class_ 2), (0, u "java/lang/Comparable"), (0, .class_ 4), (0, u "java/lang/Object")] 7

/-- java/lang/Comparable -/
def k4 : Class := { plain "java/lang/Comparable" (some 0) with
  accessFlags := 1537
  interfaces := #[]
  cf := some (fileOf pool4 1 #[] #[] 1537 3 #[] #[])
  fields := #[]
  methods := #[]
  instanceTypes := #[]
  staticTypes := #[]
  resolved := Array.replicate 12 none
  statics := none }

def pool5 : Array CpInfo := pool [(1, .class_ 2), (0, u "java/io/Serializable"), (0, .class_ 4), (0, u "java/lang/Object")] 2

/-- java/io/Serializable -/
def k5 : Class := { plain "java/io/Serializable" (some 0) with
  accessFlags := 1537
  interfaces := #[]
  cf := some (fileOf pool5 1 #[] #[] 1537 3 #[] #[])
  fields := #[]
  methods := #[]
  instanceTypes := #[]
  staticTypes := #[]
  resolved := Array.replicate 7 none
  statics := none }

def pool6 : Array CpInfo := pool [(2, .class_ 4), (1, u "java/lang/Enum"), (0, u "name"), (0, u "Ljava/lang/String;"), (2, u "ordinal"), (0, u "I"), (1, .class_ 14), (1, u "java/lang/Object"), (4, u "hash"), (86, .class_ 108), (1, u "java/lang/Enum$EnumDesc"), (2, .class_ 112), (0, u "java/lang/constant/Constable"), (0, .class_ 114), (0, u "java/lang/Comparable"), (0, .class_ 116), (0, u "java/io/Serializable")] 87

/-- java/lang/Enum -/
def k6 : Class := { plain "java/lang/Enum" (some 0) with
  accessFlags := 1057
  interfaces := #[3, 4, 5]
  cf := some (fileOf pool6 2 #[.nestMembers #[106]] #[] 1057 12 #[111, 113, 115] #[{ accessFlags := 18, nameIndex := 5, descriptorIndex := 6, attributes := #[] }, { accessFlags := 18, nameIndex := 9, descriptorIndex := 10, attributes := #[] }, { accessFlags := 2, nameIndex := 19, descriptorIndex := 10, attributes := #[] }])
  fields := #[{ name := "name", type := (.object "java/lang/String"), accessFlags := 18, slot := 0, constantValue := 0 }, { name := "ordinal", type := .int, accessFlags := 18, slot := 1, constantValue := 0 }, { name := "hash", type := .int, accessFlags := 2, slot := 2, constantValue := 0 }]
  methods := #[]
  instanceTypes := #[(.object "java/lang/String"), .int, .int]
  staticTypes := #[]
  resolved := Array.replicate 204 none
  statics := none }

def pool7 : Array CpInfo := pool [(1, .class_ 2), (0, u "com/example/canonic/canonic/Verdict$Kind"), (2, u "SAFE"), (0, u "Lcom/example/canonic/canonic/Verdict$Kind;"), (2, u "LISTED"), (2, u "UNKNOWN"), (2, u "NOT_A_URL"), (2, u "$VALUES"), (0, u "[Lcom/example/canonic/canonic/Verdict$Kind;"), (6, .class_ 28), (1, u "java/lang/Enum"), (27, .class_ 57), (0, u "com/example/canonic/canonic/Verdict")] 2

/-- com/example/canonic/canonic/Verdict$Kind -/
def k7 : Class := { plain "com/example/canonic/canonic/Verdict$Kind" (some 6) with
  accessFlags := 16433
  interfaces := #[]
  cf := some (fileOf pool7 1 #[.nestHost 56] #[] 16433 26 #[] #[{ accessFlags := 16409, nameIndex := 5, descriptorIndex := 6, attributes := #[] }, { accessFlags := 16409, nameIndex := 9, descriptorIndex := 6, attributes := #[] }, { accessFlags := 16409, nameIndex := 12, descriptorIndex := 6, attributes := #[] }, { accessFlags := 16409, nameIndex := 15, descriptorIndex := 6, attributes := #[] }, { accessFlags := 4122, nameIndex := 18, descriptorIndex := 19, attributes := #[] }])
  fields := #[{ name := "SAFE", type := (.object "com/example/canonic/canonic/Verdict$Kind"), accessFlags := 16409, slot := 0, constantValue := 0 }, { name := "LISTED", type := (.object "com/example/canonic/canonic/Verdict$Kind"), accessFlags := 16409, slot := 1, constantValue := 0 }, { name := "UNKNOWN", type := (.object "com/example/canonic/canonic/Verdict$Kind"), accessFlags := 16409, slot := 2, constantValue := 0 }, { name := "NOT_A_URL", type := (.object "com/example/canonic/canonic/Verdict$Kind"), accessFlags := 16409, slot := 3, constantValue := 0 }, { name := "$VALUES", type := (.array (.object "com/example/canonic/canonic/Verdict$Kind")), accessFlags := 4122, slot := 4, constantValue := 0 }]
  methods := #[]
  instanceTypes := #[(.object "java/lang/String"), .int, .int]
  staticTypes := #[(.object "com/example/canonic/canonic/Verdict$Kind"), (.object "com/example/canonic/canonic/Verdict$Kind"), (.object "com/example/canonic/canonic/Verdict$Kind"), (.object "com/example/canonic/canonic/Verdict$Kind"), (.array (.object "com/example/canonic/canonic/Verdict$Kind"))]
  resolved := Array.replicate 60 none
  statics := some 1 }

def pool8 : Array CpInfo := pool [(1, u "java/lang/Cloneable"), (0, .class_ 1), (0, u "java/lang/Object"), (0, .class_ 3)] 3

/-- java/lang/Cloneable -/
def k8 : Class := { plain "java/lang/Cloneable" (some 0) with
  accessFlags := 1537
  interfaces := #[]
  cf := some (fileOf pool8 2 #[] #[] 1537 4 #[] #[])
  fields := #[]
  methods := #[]
  instanceTypes := #[]
  staticTypes := #[]
  resolved := Array.replicate 8 none
  statics := none }

/-- the primitive byte -/
def k9 : Class := { plain "byte" none with kind := .primitive 'B', accessFlags := 0x411 }
/-- [B -/
def k10 : Class := { plain "[B" (some 0) with kind := .array 9 .byte, interfaces := #[8, 5], accessFlags := 1041 }

/-- the primitive int -/
def k11 : Class := { plain "int" none with kind := .primitive 'I', accessFlags := 0x411 }
/-- [I -/
def k12 : Class := { plain "[I" (some 0) with kind := .array 11 .int, interfaces := #[8, 5], accessFlags := 1041 }

def heap : Heap := #[{ cls := 2, slots := #[.null, .ref 3, .ref 4], vm := .statics 2 },
  { cls := 7, slots := #[.ref 2, .null, .null, .null, .null], vm := .statics 7 },
  { cls := 7, slots := #[.null, .int 0, .int 0], vm := .none },
  { cls := 2, slots := #[.ref 2, .null, .null, .int 1, .int 0], vm := .none },
  { cls := 2, slots := #[.ref 2, .null, .null, .int 1, .int 1], vm := .none }]
def classes : Array Class := #[k0, k1, k2, k3, k4, k5, k6, k7, k8, k9, k10, k11, k12]
def interned : List (Array UInt16 × Addr) := []
def slotsUsed : Nat := 21
def theMethod : MethodId := ⟨1, 1⟩
def args0 : Array Value := #[.int 5]
def aboutOver (below : List Frame) : State where
  vm := { classes := classes, interned := interned.toArray }
  heap := heap
  slotsUsed := slotsUsed
  threads := #[{ frames := .invoking theMethod args0 :: below }]
def below0 : List Frame := [.native { method := ⟨0, 0⟩, args := #[] }]
def about1 : State := aboutOver below0
def p0 : Program := .bare "" "" ""
def e0 : Env := launch0.env 0 0 0
theorem w_frames : about1.frames = Frame.invoking theMethod args0 :: below0 := rfl
set_option maxRecDepth 65536 in
theorem w_args : argsFit about1.vm theMethod args0 = true := by decide +kernel
set_option maxRecDepth 65536 in
theorem w_heap : heapFits about1 = true := by decide +kernel
set_option maxRecDepth 65536 in
theorem w_runnable : about1.curStatus? = some .runnable := by decide +kernel
set_option maxRecDepth 65536 in
theorem w_alone : about1.alone = true := by decide +kernel
set_option maxRecDepth 65536 in
theorem w_named : about1.methodNamed? x = some theMethod := by decide +kernel
set_option maxRecDepth 65536 in
theorem w_hears : about1.hears theMethod below0 = true := by decide +kernel
set_option maxRecDepth 65536 in
theorem w_ripe : about1.ripe theMethod args0 below0 = true := by decide +kernel
theorem w_running : about1.status = .running := rfl
set_option maxRecDepth 65536 in
theorem w_room : about1.hasRoom e0.platform room_1 = true :=
  launch0.hasRoom_least _ room_1 (by decide +kernel) (by decide +kernel) (by decide +kernel) (by decide +kernel) (by decide +kernel) (by decide +kernel)
theorem allAtoms_all (ts : List Jvm.Cond) (a : Array Jvm.Value) (st : Jvm.State) : (allAtoms ts).before a st = ts.all (fun c => c.before a st) := by
  induction ts with
  | nil => rfl
  | cons c t ih =>
    show (Jvm.Cond.and c (allAtoms t)).before a st = _
    rw [Jvm.Cond.before_and, ih, List.all_cons]
def words1 : List Jvm.Cond := Jvm.Cond.code x code maxLocals ret :: tables_1
/-- a 'code' word, met by the world's own term for the bytes: nothing is compared byte by byte -/
theorem code_word {y : MethodName} {bytes : ByteArray} {mx : Nat} {rt : Option FieldType} {a : Array Value} {s : State} {m : MethodId} {meth : Method} {c : Code} (h1 : s.methodNamed? y = some m) (h2 : s.vm.method? m = some meth) (h3 : meth.code = some c) (h4 : c.code = bytes)
    (h5 : (c.maxLocals == mx && c.exceptionTable.isEmpty && decide (c.maxStack ≤ mostOperands) && decide (meth.sig.returnType = rt) && !meth.locks && decide (parseMethodDescriptor y.desc = some meth.sig)) = true) : (Jvm.Cond.code y bytes mx rt).before a s = true := by
  simp only [Bool.and_eq_true, beq_iff_eq, Bool.not_eq_true', decide_eq_true_eq] at h5
  obtain ⟨⟨⟨⟨⟨g1, g2⟩, g3⟩, g4⟩, g5⟩, g6⟩ := h5
  simp [Cond.before, Cond.holds, Cond.value, h1, h2, h3, h4, g1, g2, g3, g4, g5, g6]
def isCode : Jvm.Cond → Bool
  | .code _ _ _ _ => true
  | _ => false
theorem all_split {L : List Jvm.Cond} {P : Jvm.Cond → Bool} (h1 : L.all (fun c => isCode c || P c) = true) (h2 : ∀ c ∈ L.filter isCode, P c = true) : L.all P = true := by
  refine List.all_eq_true.mpr fun c hc => ?_
  have h := List.all_eq_true.mp h1 c hc
  rcases Bool.eq_false_or_eq_true (isCode c) with hi | hi
  · exact h2 c (List.mem_filter.mpr ⟨hc, hi⟩)
  · simpa [hi] using h
set_option maxRecDepth 65536 in
theorem w_c0 : (Jvm.Cond.code x code maxLocals ret).before args0 about1 = true := code_word (m := ⟨1, 1⟩) (meth := k1m1) (c := k1c1) (by decide +kernel) rfl rfl rfl (by decide +kernel)
set_option maxRecDepth 65536 in
theorem w_c1 : (Jvm.Cond.code ({ cls := "com/example/canonic/canonic/Verdict", name := "safeAfterMatch", desc := "(Z)Lcom/example/canonic/canonic/Verdict;" } : Jvm.MethodName) prog_43_method_3_code (1 : Nat) (Option.some (Jvm.ClassFile.FieldType.object "com/example/canonic/canonic/Verdict"))).before args0 about1 = true := code_word (m := ⟨2, 0⟩) (meth := k2m0) (c := k2c0) (by decide +kernel) rfl rfl rfl (by decide +kernel)
set_option maxRecDepth 65536 in
theorem w_c2 : (Jvm.Cond.code ({ cls := "com/example/canonic/canonic/Verdict", name := "kind", desc := "()Lcom/example/canonic/canonic/Verdict$Kind;" } : Jvm.MethodName) prog_43_method_7_code (1 : Nat) (Option.some (Jvm.ClassFile.FieldType.object "com/example/canonic/canonic/Verdict$Kind"))).before args0 about1 = true := code_word (m := ⟨2, 1⟩) (meth := k2m1) (c := k2c1) (by decide +kernel) rfl rfl rfl (by decide +kernel)
set_option maxRecDepth 65536 in
theorem w_c3 : (Jvm.Cond.code ({ cls := "com/example/canonic/canonic/Verdict", name := "matched", desc := "()Z" } : Jvm.MethodName) prog_43_method_8_code (1 : Nat) (Option.some Jvm.ClassFile.FieldType.boolean)).before args0 about1 = true := code_word (m := ⟨2, 2⟩) (meth := k2m2) (c := k2c2) (by decide +kernel) rfl rfl rfl (by decide +kernel)
set_option maxRecDepth 65536 in
theorem w_c4 : (Jvm.Cond.code ({ cls := "com/example/canonic/canonic/Verdict", name := "requested", desc := "()Z" } : Jvm.MethodName) prog_43_method_9_code (1 : Nat) (Option.some Jvm.ClassFile.FieldType.boolean)).before args0 about1 = true := code_word (m := ⟨2, 3⟩) (meth := k2m3) (c := k2c3) (by decide +kernel) rfl rfl rfl (by decide +kernel)
set_option maxRecDepth 65536 in
theorem w_c5 : (Jvm.Cond.code ({ cls := "com/example/canonic/canonic/Verdict", name := "problem", desc := "()Ljava/lang/String;" } : Jvm.MethodName) prog_43_method_12_code (1 : Nat) (Option.some (Jvm.ClassFile.FieldType.object "java/lang/String"))).before args0 about1 = true := code_word (m := ⟨2, 4⟩) (meth := k2m4) (c := k2c4) (by decide +kernel) rfl rfl rfl (by decide +kernel)
def codes1 : List Jvm.Cond := [Jvm.Cond.code x code maxLocals ret, Jvm.Cond.code ({ cls := "com/example/canonic/canonic/Verdict", name := "safeAfterMatch", desc := "(Z)Lcom/example/canonic/canonic/Verdict;" } : Jvm.MethodName) prog_43_method_3_code (1 : Nat) (Option.some (Jvm.ClassFile.FieldType.object "com/example/canonic/canonic/Verdict")), Jvm.Cond.code ({ cls := "com/example/canonic/canonic/Verdict", name := "kind", desc := "()Lcom/example/canonic/canonic/Verdict$Kind;" } : Jvm.MethodName) prog_43_method_7_code (1 : Nat) (Option.some (Jvm.ClassFile.FieldType.object "com/example/canonic/canonic/Verdict$Kind")), Jvm.Cond.code ({ cls := "com/example/canonic/canonic/Verdict", name := "matched", desc := "()Z" } : Jvm.MethodName) prog_43_method_8_code (1 : Nat) (Option.some Jvm.ClassFile.FieldType.boolean), Jvm.Cond.code ({ cls := "com/example/canonic/canonic/Verdict", name := "requested", desc := "()Z" } : Jvm.MethodName) prog_43_method_9_code (1 : Nat) (Option.some Jvm.ClassFile.FieldType.boolean), Jvm.Cond.code ({ cls := "com/example/canonic/canonic/Verdict", name := "problem", desc := "()Ljava/lang/String;" } : Jvm.MethodName) prog_43_method_12_code (1 : Nat) (Option.some (Jvm.ClassFile.FieldType.object "java/lang/String"))]
set_option maxRecDepth 65536 in
theorem codes_eq : words1.filter isCode = codes1 := rfl
theorem w_codes : ∀ c ∈ words1.filter isCode, c.before args0 about1 = true := by
  rw [codes_eq]
  intro c hc
  simp only [codes1, List.mem_cons, List.not_mem_nil, or_false] at hc
  rcases hc with rfl | rfl | rfl | rfl | rfl | rfl
  · exact w_c0
  · exact w_c1
  · exact w_c2
  · exact w_c3
  · exact w_c4
  · exact w_c5
set_option maxRecDepth 65536 in
theorem w_t1 : (words1.take 24).all (fun c => isCode c || c.before args0 about1) = true := by decide +kernel
set_option maxRecDepth 65536 in
theorem w_t2 : (words1.drop 24).all (fun c => isCode c || c.before args0 about1) = true := by decide +kernel
theorem w_tables : (allAtoms (Jvm.Cond.code x code maxLocals ret :: tables_1)).before args0 about1 = true := by
  rw [allAtoms_all]
  show words1.all (fun c => c.before args0 about1) = true
  refine all_split ?_ w_codes
  rw [← List.take_append_drop 24 words1, List.all_append, w_t1, w_t2]
  rfl
set_option maxRecDepth 65536 in
theorem w_case : (Jvm.Cond.and given_1 narrow_1).before args0 about1 = true := by decide +kernel
theorem w_applies : (headSpec (Jvm.Cond.code x code maxLocals ret :: tables_1) room_1).applies x e0.platform about1 = true :=
  (Spec.applies_iff w_frames).mpr ⟨w_running, w_runnable, w_alone, w_named, w_hears, w_ripe, w_room, w_tables⟩
theorem atStart : AtStart classFile x code maxLocals ret World_1 tables_1 room_1 Calls_1 rest_1 Pre_1 launch0 p0 e0 about1 theMethod args0 below0 :=
  ⟨lists_1, trivial, launch0.admits_env _ _ _, launch0.least_env, fairChoices_fair.cas, fairChoices_fair.clock, w_frames, w_args, w_heap, w_applies, trivial, trivial, w_case⟩
end start1
theorem witness_1 : WitnessClaimed_1 := ⟨start1.p0, start1.e0, start1.about1, start1.theMethod, start1.args0, start1.below0, start1.atStart⟩
end Jvm.Pilot.@@N@@
