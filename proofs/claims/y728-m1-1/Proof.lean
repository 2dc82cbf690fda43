import JvmDerived
import JvmDerived.Pilot.@@N@@Statement
import JvmDerived.Pilot.@@N@@Code
set_option linter.unusedVariables false
set_option linter.unusedSimpArgs false
namespace Jvm.Pilot.@@N@@
open Jvm Jvm.ClassFile Sem Op Lib Jvm.Free Jvm.Stand Jvm.LawKit Jvm.RoadKit Bundle Jvm.Pilot.@@N@@.Jvm.D
section OwnKit
variable {p : Program} {l : Launch} {e : Env} {R : Room} {s : State} {m : MethodId} {args : Array Value} {below : List Frame} {meth : Method} {c : Code} {T : State} {locs : List Loc} {cells slots : Nat}
/-- from the state A the body runs to its end and leaves what Q says -/
def own_Go (p : Program) (e : Env) (below : List Frame) (s : State) (Q : Option Value → Heap → List Loc → Prop) (kc ks : Nat) (A : State) : Prop :=
  ∃ s₂ o, Steps p.tables e below A s₂ ∧ s₂.status = .running ∧ Ended s₂ below o ∧ ∃ v L, o = .returned v ∧ Q v s₂.heap L ∧ FrameEnd s o s₂ L kc ks
theorem own_go {Q : Option Value → Heap → List Loc → Prop} {kc ks : Nat} {A B : State} (h : ∀ t, Steps p.tables e below B t → Steps p.tables e below A t) (k : own_Go p e below s Q kc ks B) : own_Go p e below s Q kc ks A := by
  obtain ⟨s₂, o, h1, h2⟩ := k
  exact ⟨s₂, o, h _ h1, h2⟩
/-- from the state A the body runs to the frame g', the heap as it was -/
def own_Arm (p : Program) (l : Launch) (e : Env) (R : Room) (s : State) (m : MethodId) (args : Array Value) (below : List Frame) (meth : Method) (c : Code) (cells slots n0 : Nat) (h : Heap) (g' : JFrame) (A : State) : Prop :=
  ∃ (T' : State) (locs' : List Loc), Stand p l e R s m args below meth c T' locs' cells slots ∧ Fr n0 locs' ∧ T'.heap = h ∧ ∀ t, Steps p.tables e below (T'.setTop g') t → Steps p.tables e below A t
theorem own_arm {n0 : Nat} {h : Heap} {g' : JFrame} {A B : State} (k1 : ∀ t, Steps p.tables e below B t → Steps p.tables e below A t) (k : own_Arm p l e R s m args below meth c cells slots n0 h g' B) : own_Arm p l e R s m args below meth c cells slots n0 h g' A := by
  obtain ⟨T', locs', h1, h2, h3, h4⟩ := k
  exact ⟨T', locs', h1, h2, h3, fun t kt => k1 t (h4 t kt)⟩
theorem own_armEnd {n0 : Nat} {h : Heap} {g g' : JFrame} (X : Stand p l e R s m args below meth c T locs cells slots) (N : Fr n0 locs) (eT : T.heap = h) (q : g' = g) : own_Arm p l e R s m args below meth c cells slots n0 h g' (T.setTop g) :=
  ⟨T, locs, X, N, eT, fun t kt => q ▸ kt⟩
theorem own_mrg {n0 : Nat} {h : Heap} {g g' : JFrame} (X : Stand p l e R s m args below meth c T locs cells slots) (k : own_Arm p l e R s m args below meth c cells slots n0 h g' (T.setTop g)) :
    ∃ (T' : State) (locs' : List Loc), Stand p l e R s m args below meth c T' locs' cells slots ∧ Fr n0 locs' ∧ T'.heap = h ∧ ∀ t, Steps p.tables e below (T'.setTop g') t → Steps p.tables e below (T.setTop g) t := k
theorem own_leave {Q : Option Value → Heap → List Loc → Prop} {kc ks : Nat} {A : State} {v : Option Value} (X : Stand p l e R s m args below meth c T locs cells slots) (hv : meth.sig.returnType = none → v = none) (hlk : meth.locks = false)
    (hc : cells ≤ kc) (hs : slots ≤ ks) (hQ : Q v T.heap locs) (k : ∀ fs, (∀ (f : JFrame) (acts : List Action), f.method = m → f.locked = none → f.entered = [] → (doReturn e (T.setTop f) acts v).1 = T.setFrames fs) → Steps p.tables e below A (T.setFrames fs)) : own_Go p e below s Q kc ks A := by
  obtain ⟨fs, hr, hrun, hended, hW, hsame⟩ := X.leave (v := v) hv hlk
  exact ⟨_, _, k fs hr, hrun, hended, _, _, rfl, hQ, ⟨_, rfl⟩, hW, hsame.mono hc hs⟩
theorem own_retI {Q : Option Value → Heap → List Loc → Prop} {kc ks pc : Nat} {Ls : Array Slot} {z : Int32} {rest : List Value} (X : Stand p l e R s m args below meth c T locs cells slots) (hx : p.tables.exec = Jvm.exec) (hret : meth.sig.returnType = some .int) (hlk : meth.locks = false)
    (hd : decode c.code pc = .ok (.ireturn, 1)) (hc : cells ≤ kc) (hs : slots ≤ ks) (hQ : Q (some (.int z)) T.heap locs) : own_Go p e below s Q kc ks (T.setTop (mkF m pc Ls (.int z :: rest))) := by
  refine own_leave X (fun h => by rw [hret] at h; cases h) hlk hc hs hQ fun fs hl => ?_
  have hm' : T.vm.method? m = some meth := X.method'
  have hn : narrow .int (.int z) = .int z := rfl
  show Steps p.tables e below (T.setTop { method := m, pc := pc, locals := Ls, stack := _ :: rest, locked := none }) _
  jvm_step X.here [X.here.top, hx, hd, hm', hret, hn]
  first | (intro acts; rw [hl _ acts rfl rfl rfl]) | rw [hl _ _ rfl rfl rfl]
  exact Steps.refl _
theorem own_retN {Q : Option Value → Heap → List Loc → Prop} {kc ks pc : Nat} {Ls : Array Slot} {z : Int32} {rest : List Value} {t : FieldType} (X : Stand p l e R s m args below meth c T locs cells slots) (hx : p.tables.exec = Jvm.exec) (hret : meth.sig.returnType = some t) (ht : t = .boolean ∨ t = .byte ∨ t = .char ∨ t = .short) (hlk : meth.locks = false)
    (hd : decode c.code pc = .ok (.ireturn, 1)) (hc : cells ≤ kc) (hs : slots ≤ ks) (hQ : Q (some (.int (nar t z))) T.heap locs) : own_Go p e below s Q kc ks (T.setTop (mkF m pc Ls (.int z :: rest))) :=
  own_leave X (fun h => by rw [hret] at h; cases h) hlk hc hs hQ fun fs hl => retN X hx (t := t) hret ht hd hl
theorem own_nar01 {z : Int32} (h : z = 0 ∨ z = 1) : nar .boolean z = z := by rcases h with rfl | rfl <;> rfl
theorem own_retZ {Q : Option Value → Heap → List Loc → Prop} {kc ks pc : Nat} {Ls : Array Slot} {z : Int32} {rest : List Value} (X : Stand p l e R s m args below meth c T locs cells slots) (hx : p.tables.exec = Jvm.exec) (hret : meth.sig.returnType = some .boolean) (hlk : meth.locks = false)
    (hd : decode c.code pc = .ok (.ireturn, 1)) (hc : cells ≤ kc) (hs : slots ≤ ks) (hz : z = 0 ∨ z = 1) (hQ : Q (some (.int z)) T.heap locs) : own_Go p e below s Q kc ks (T.setTop (mkF m pc Ls (.int z :: rest))) :=
  own_retN X hx hret (Or.inl rfl) hlk hd hc hs (by rw [own_nar01 hz]; exact hQ)
theorem own_retJ {Q : Option Value → Heap → List Loc → Prop} {kc ks pc : Nat} {Ls : Array Slot} {z : Int64} (X : Stand p l e R s m args below meth c T locs cells slots) (hx : p.tables.exec = Jvm.exec) (hret : meth.sig.returnType = some .long) (hlk : meth.locks = false)
    (hd : decode c.code pc = .ok (.lreturn, 1)) (hc : cells ≤ kc) (hs : slots ≤ ks) (hQ : Q (some (.long z)) T.heap locs) : own_Go p e below s Q kc ks (T.setTop (mkF m pc Ls [.long z])) :=
  own_leave X (fun h => by rw [hret] at h; cases h) hlk hc hs hQ fun fs hl => X.lreturnOut hx hret hd hl
theorem own_retA {Q : Option Value → Heap → List Loc → Prop} {kc ks pc : Nat} {Ls : Array Slot} {w : Value} {t : FieldType} {rest : List Value} (X : Stand p l e R s m args below meth c T locs cells slots) (hx : p.tables.exec = Jvm.exec) (hret : meth.sig.returnType = some t) (ht : t.isReference = true) (hw : w.isRef = true) (hlk : meth.locks = false)
    (hd : decode c.code pc = .ok (.areturn, 1)) (hc : cells ≤ kc) (hs : slots ≤ ks) (hQ : Q (some w) T.heap locs) : own_Go p e below s Q kc ks (T.setTop (mkF m pc Ls (w :: rest))) := by
  refine own_leave X (fun h => by rw [hret] at h; cases h) hlk hc hs hQ fun fs hl => ?_
  have hm' : T.vm.method? m = some meth := X.method'
  show Steps p.tables e below (T.setTop { method := m, pc := pc, locals := Ls, stack := _ :: rest, locked := none }) _
  rcases ref_cases hw with rfl | ⟨a, rfl⟩
  all_goals
    jvm_step X.here [X.here.top, hx, hd, hm', hret, Value.isRef, ht]
    first | (intro acts; rw [hl _ acts rfl rfl rfl]) | rw [hl _ _ rfl rfl rfl]
    exact Steps.refl _
theorem own_retV {Q : Option Value → Heap → List Loc → Prop} {kc ks pc : Nat} {Ls : Array Slot} (X : Stand p l e R s m args below meth c T locs cells slots) (hx : p.tables.exec = Jvm.exec) (hret : meth.sig.returnType = none) (hlk : meth.locks = false)
    (hd : decode c.code pc = .ok (.return_, 1)) (hc : cells ≤ kc) (hs : slots ≤ ks) (hQ : Q none T.heap locs) : own_Go p e below s Q kc ks (T.setTop (mkF m pc Ls [])) :=
  own_leave X (fun _ => rfl) hlk hc hs hQ fun fs hl => X.returnOut hx hret hd hl
theorem own_getFR {Z : State} {a0 : Array Value} {h : Heap} (X : Stand p l e R s m args below meth c T locs cells slots) (hx : p.tables.exec = Jvm.exec) (hZ : Z.Warmed39 s.vm) {own O n d : String} {index : Nat} (hown : s.vm.findClass own = some m.cls) (w : (Jvm.Cond.fieldRef own index O n d).before a0 Z = true)
    (eT : T.heap = h) {a : Addr} {v : Value} (F : Fld Z h a O n d v) {g : JFrame} (hg : g.method = m) {rest : List Value} (hs : g.stack = .ref a :: rest) (hd : decode c.code g.pc = .ok (.getfield index, 3)) (target : State) (k : Steps p.tables e below (T.setTop { g with pc := g.pc + 3, stack := v :: rest }) target) : Steps p.tables e below (T.setTop g) target := by
  obtain ⟨cell, cf, kc, i, f, h1, h2, h3, h4, -, -, h7⟩ := F
  have hW : Z.Warmed39 T.vm := wtrans hZ X.warmed
  have w2 := Cond.fieldRef_warmed39 hW w
  obtain ⟨k', hi, -⟩ := State.fieldFound?_setVm (s := Z) hW.alike h2
  have hc : (Z.setVm T.vm).vm.findClass own = some m.cls := by show T.vm.findClass own = _; rw [X.warmed.alike.findClass]; exact hown
  obtain ⟨c1, k1, i1, f1, e1, hr⟩ := Cond.fieldRef_spec hc w2
  cases hi.symm.trans e1
  exact (X.getfieldR hx hg (cF := cf) (field := f) hr h3 hs (by rw [eT]; exact h1) h4 h7 hd (Steps.refl _)).trans k
theorem own_ite01 {c : Prop} [Decidable c] {a b : Int32} (ha : a = 0 ∨ a = 1) (hb : b = 0 ∨ b = 1) : (if c then a else b) = 0 ∨ (if c then a else b) = 1 := by split <;> assumption
end OwnKit
theorem own_lc_eq {a b : Int64} (h : a = b) : lcmpW a b = 0 := by subst h; simp [lcmpW]
theorem own_lc_neq {a b : Int64} (h : ¬ (a = b)) : ¬ (lcmpW a b = 0) := by unfold lcmpW; split <;> first | decide | (rw [if_neg h]; decide)
theorem own_lc_lt {a b : Int64} (h : a < b) : lcmpW a b < 0 := by
  have h1 : ¬ (a > b) := fun q => Int64.lt_irrefl (Int64.lt_trans h q)
  have h2 : ¬ (a = b) := fun q => by subst q; exact Int64.lt_irrefl h
  rw [lcmpW, if_neg h1, if_neg h2]; decide
theorem own_lc_nlt {a b : Int64} (h : ¬ (a < b)) : ¬ (lcmpW a b < 0) := by
  unfold lcmpW
  split
  · decide
  · rename_i h1
    split
    · decide
    · rename_i h2; exact absurd (Int64.le_antisymm (Int64.not_lt.mp h1) (Int64.not_lt.mp h)) h2
theorem own_lc_gt {a b : Int64} (h : b < a) : (0 : Int32) < lcmpW a b := by rw [lcmpW, if_pos h]; decide
theorem own_lc_ngt {a b : Int64} (h : ¬ (b < a)) : ¬ ((0 : Int32) < lcmpW a b) := by
  rw [lcmpW, if_neg h]; split <;> decide
theorem own_rn {w : Value} {C : String} (h : w.isRef = true) : narrow (.object C) w = w := by rcases ref_cases h with rfl | ⟨a, rfl⟩ <;> rfl
theorem own_rf {w : Value} {C : String} (h : w.isRef = true) : fits (.object C) w = true := by rcases ref_cases h with rfl | ⟨a, rfl⟩ <;> rfl
theorem own_plainE {Z : State} {h : Heap} {a : Addr} {C : String} (E : Exa Z h a C) : ∀ cell : Cell, h[a]? = some cell → cell.vm.isStatics = false := fun cell hc => by
  obtain ⟨c, k, h1, -, -, h4, -⟩ := E
  cases h1.symm.trans hc; exact h4
theorem own_staKeep {Z : State} {h h' : Heap} {C n d : String} {v : Value} {ws : List Addr} (F : Sta Z h C n d v) (K : Keep h h' ws) (q : ∀ x ∈ ws, ∀ cell : Cell, h[x]? = some cell → cell.vm.isStatics = false) : Sta Z h' C n d v := by
  obtain ⟨cf, i, k, f, st, cell, h1, h2, h3, h4, h5, h6, h7⟩ := F
  exact ⟨cf, i, k, f, st, cell, h1, h2, h3, h4, K.2.1 st cell h5 (fun hm => by rw [q st hm cell h5] at h6; cases h6), h6, h7⟩
theorem d1_0 : decode prog_4_method_1_code 0 = .ok (.aload_n 0, 1) := by decide +kernel
theorem d1_1 : decode prog_4_method_1_code 1 = .ok (.invokespecial 1, 3) := by decide +kernel
theorem d1_4 : decode prog_4_method_1_code 4 = .ok (.aload_n 0, 1) := by decide +kernel
theorem d1_5 : decode prog_4_method_1_code 5 = .ok (.lload_n 1, 1) := by decide +kernel
theorem d1_6 : decode prog_4_method_1_code 6 = .ok (.putfield 7, 3) := by decide +kernel
theorem d1_9 : decode prog_4_method_1_code 9 = .ok (.aload_n 0, 1) := by decide +kernel
theorem d1_10 : decode prog_4_method_1_code 10 = .ok (.lload_n 3, 1) := by decide +kernel
theorem d1_11 : decode prog_4_method_1_code 11 = .ok (.putfield 13, 3) := by decide +kernel
theorem d1_14 : decode prog_4_method_1_code 14 = .ok (.aload_n 0, 1) := by decide +kernel
theorem d1_15 : decode prog_4_method_1_code 15 = .ok (.lload 5, 2) := by decide +kernel
theorem d1_17 : decode prog_4_method_1_code 17 = .ok (.putfield 16, 3) := by decide +kernel
theorem d1_20 : decode prog_4_method_1_code 20 = .ok (.aload_n 0, 1) := by decide +kernel
theorem d1_21 : decode prog_4_method_1_code 21 = .ok (.lload 7, 2) := by decide +kernel
theorem d1_23 : decode prog_4_method_1_code 23 = .ok (.putfield 19, 3) := by decide +kernel
theorem d1_26 : decode prog_4_method_1_code 26 = .ok (.return_, 1) := by decide +kernel
theorem ef_1 (m : MethodId) (r0 : Addr) (q1 : Int64) (q2 : Int64) (q3 : Int64) (q4 : Int64) : entryFrame m #[(.ref r0), (.long q1), (.long q2), (.long q3), (.long q4)] 9 = mkF m 0 #[.val (.ref r0), .val (.long q1), .second, .val (.long q2), .second, .val (.long q3), .second, .val (.long q4), .second] [] := by (first | (simp [entryFrame, mkF, argsToLocals, Value.category]; done) | rfl)
theorem pn0 : plainName "com/example/canonic/canonic/CheckStats" = true := by first | (simp [plainName, overriddenIn]; done) | decide +kernel
def Q1 (Z : State) (r0 : Addr) (q1 : Int64) (q2 : Int64) (q3 : Int64) (q4 : Int64) (w5 : Int64) (w6 : Int64) (w7 : Int64) (w8 : Int64) (h0 : Heap) (n0 : Nat) (v : Option Value) (h : Heap) (L : List Loc) : Prop := v = none ∧ Fr n0 L ∧ Keep h0 h [r0] ∧ Exa Z h r0 "com/example/canonic/canonic/CheckStats" ∧ Fld Z h r0 "com/example/canonic/canonic/CheckStats" "settledLocally" "J" (.long q1) ∧ Fld Z h r0 "com/example/canonic/canonic/CheckStats" "settledByKeptAnswer" "J" (.long q2) ∧ Fld Z h r0 "com/example/canonic/canonic/CheckStats" "settledByRequest" "J" (.long q3) ∧ Fld Z h r0 "com/example/canonic/canonic/CheckStats" "unknown" "J" (.long q4)
set_option maxRecDepth 65536 in
set_option maxHeartbeats 40000000 in
theorem rm1 (l : Launch) (Z : State) (a0 : Array Value) (hw : ∀ d ∈ tables_1, d.before a0 Z = true) (ws : List Jvm.Cond) (r0 : Addr) (q1 : Int64) (q2 : Int64) (q3 : Int64) (q4 : Int64) (w5 : Int64) (w6 : Int64) (w7 : Int64) (w8 : Int64) (h0 : Heap) (n0 : Nat) (Z0 : n0 ≤ h0.size) (E_r0 : Exa Z h0 r0 "com/example/canonic/canonic/CheckStats") (F_settledLocally_r0 : Fld Z h0 r0 "com/example/canonic/canonic/CheckStats" "settledLocally" "J" (.long w5)) (F_settledByKeptAnswer_r0 : Fld Z h0 r0 "com/example/canonic/canonic/CheckStats" "settledByKeptAnswer" "J" (.long w6)) (F_settledByRequest_r0 : Fld Z h0 r0 "com/example/canonic/canonic/CheckStats" "settledByRequest" "J" (.long w7)) (F_unknown_r0 : Fld Z h0 r0 "com/example/canonic/canonic/CheckStats" "unknown" "J" (.long w8)) (g_r0 : n0 ≤ r0) :
    MetFree l (⟨"com/example/canonic/canonic/CheckStats", "<init>", "(JJJJ)V"⟩ : MethodName) (head1 (Jvm.Cond.code (⟨"com/example/canonic/canonic/CheckStats", "<init>", "(JJJJ)V"⟩ : MethodName) prog_4_method_1_code 9 none :: ws) ({ frames := 1, cells := 0, slots := 0, locals := 12 } : Room)) (fun a U => a = #[(.ref r0), (.long q1), (.long q2), (.long q3), (.long q4)] ∧ Z.Warmed39 U.vm ∧ U.heap = h0) (fun _ _ _ _ _ => True) (fun _ U o U' => ∃ v L, o = .returned v ∧ Q1 Z r0 q1 q2 q3 q4 w5 w6 w7 w8 h0 n0 v U'.heap L ∧ FrameEnd U o U' L ({ frames := 1, cells := 0, slots := 0, locals := 12 } : Room).cells ({ frames := 1, cells := 0, slots := 0, locals := 12 } : Room).slots) := by
  refine MetFree.of_bodySF (plainFor_of_name pn0) hisR ?_
  intro p e s m args below meth c s₁ Bd hml0 hP hK
  obtain ⟨rfl, hZ, hh⟩ := hP
  have hx := Bd.exec
  have hby := Bd.bytes
  have hml : c.maxLocals = 9 := hml0
  have hown : s.vm.findClass "com/example/canonic/canonic/CheckStats" = some m.cls := findClass_of_methodNamed Bd.named
  have hnm := (name_of_methodNamed Bd.named Bd.method).1
  have X0 : Stand p l e ({ frames := 1, cells := 0, slots := 0, locals := 12 } : Room) s m #[(.ref r0), (.long q1), (.long q2), (.long q3), (.long q4)] below meth c s₁ [] 0 0 := Stand.of_body Bd
  have e0 : s₁.heap = h0 := by rw [← hh, Bd.state]; rfl
  have N0 := Fr.nil n0
  have K0 : Keep h0 h0 [r0] := Keep.refl h0 _
  show own_Go p e below s (Q1 Z r0 q1 q2 q3 q4 w5 w6 w7 w8 h0 n0) ({ frames := 1, cells := 0, slots := 0, locals := 12 } : Room).cells ({ frames := 1, cells := 0, slots := 0, locals := 12 } : Room).slots (s₁.setTop (entryFrame m #[(.ref r0), (.long q1), (.long q2), (.long q3), (.long q4)] 9))
  refine own_go (fun t k => castTop (ef_1 m r0 q1 q2 q3 q4) k) ?_
  obtain ⟨T101, X101, e101, st101⟩ := initO X0 hx hZ hown (hw _ (List.mem_of_getElem? (i := 6) rfl)) (hw _ (List.mem_of_getElem? (i := 7) rfl)) (hw _ (List.mem_of_getElem? (i := 8) rfl)) e0 (g := (mkF m 1 #[.val (.ref r0), .val (.long q1), .second, .val (.long q2), .second, .val (.long q3), .second, .val (.long q4), .second] [(.ref r0)])) rfl (by rw [hml]; rfl) rfl (hb hby d1_1) (by decide) (W := 0) (by show 2 * 0 + _ ≤ _; exact Nat.le_of_eq rfl) (by decide)
  obtain ⟨T102, h102, X102, e102, W102, st102⟩ := putF X101 hx hZ hown (host := "") (Or.inl (hw _ (List.mem_of_getElem? (i := 9) rfl))) Via.refl e101 F_settledLocally_r0 E_r0 (Or.inr ⟨(hw _ (List.mem_of_getElem? (i := 10) rfl)), rfl, hnm⟩) (hw _ (List.mem_of_getElem? (i := 1) rfl)) (ty := .long) (by decide) rfl rfl (g := (mkF m 6 #[.val (.ref r0), .val (.long q1), .second, .val (.long q2), .second, .val (.long q3), .second, .val (.long q4), .second] [(.long q1), (.ref r0)])) rfl rfl (hb hby d1_6)
  have F103 := E_r0.wr W102
  have F104 := F_settledLocally_r0.same W102
  have F105 := F_settledByKeptAnswer_r0.other W102 (Or.inr (slot_ne (Or.inr (hw _ (List.mem_of_getElem? (i := 12) rfl))) (Or.inr (hw _ (List.mem_of_getElem? (i := 10) rfl))) (by decide) (t := .long) (t' := .long) (by decide) (by decide)))
  have F106 := F_settledByRequest_r0.other W102 (Or.inr (slot_ne (Or.inr (hw _ (List.mem_of_getElem? (i := 14) rfl))) (Or.inr (hw _ (List.mem_of_getElem? (i := 10) rfl))) (by decide) (t := .long) (t' := .long) (by decide) (by decide)))
  have F107 := F_unknown_r0.other W102 (Or.inr (slot_ne (Or.inr (hw _ (List.mem_of_getElem? (i := 16) rfl))) (Or.inr (hw _ (List.mem_of_getElem? (i := 10) rfl))) (by decide) (t := .long) (t' := .long) (by decide) (by decide)))
  have Z108 : n0 ≤ h102.size := Nat.le_trans Z0 (Keep.of_wr W102).1
  have K109 : Keep h0 h102 [r0] := K0.wr W102 (Or.inl (List.mem_of_getElem? (i := 0) rfl))
  have N110 := Fr.snoc X102 N0 g_r0
  obtain ⟨T111, h111, X111, e111, W111, st111⟩ := putF X102 hx hZ hown (host := "") (Or.inl (hw _ (List.mem_of_getElem? (i := 11) rfl))) Via.refl e102 F105 F103 (Or.inr ⟨(hw _ (List.mem_of_getElem? (i := 12) rfl)), rfl, hnm⟩) (hw _ (List.mem_of_getElem? (i := 1) rfl)) (ty := .long) (by decide) rfl rfl (g := (mkF m 11 #[.val (.ref r0), .val (.long q1), .second, .val (.long q2), .second, .val (.long q3), .second, .val (.long q4), .second] [(.long q2), (.ref r0)])) rfl rfl (hb hby d1_11)
  have F112 := F103.wr W111
  have F113 := F104.other W111 (Or.inr (slot_ne (Or.inr (hw _ (List.mem_of_getElem? (i := 10) rfl))) (Or.inr (hw _ (List.mem_of_getElem? (i := 12) rfl))) (by decide) (t := .long) (t' := .long) (by decide) (by decide)))
  have F114 := F105.same W111
  have F115 := F106.other W111 (Or.inr (slot_ne (Or.inr (hw _ (List.mem_of_getElem? (i := 14) rfl))) (Or.inr (hw _ (List.mem_of_getElem? (i := 12) rfl))) (by decide) (t := .long) (t' := .long) (by decide) (by decide)))
  have F116 := F107.other W111 (Or.inr (slot_ne (Or.inr (hw _ (List.mem_of_getElem? (i := 16) rfl))) (Or.inr (hw _ (List.mem_of_getElem? (i := 12) rfl))) (by decide) (t := .long) (t' := .long) (by decide) (by decide)))
  have Z117 : n0 ≤ h111.size := Nat.le_trans Z108 (Keep.of_wr W111).1
  have K118 : Keep h0 h111 [r0] := K109.wr W111 (Or.inl (List.mem_of_getElem? (i := 0) rfl))
  have N119 := Fr.snoc X111 N110 g_r0
  obtain ⟨T120, h120, X120, e120, W120, st120⟩ := putF X111 hx hZ hown (host := "") (Or.inl (hw _ (List.mem_of_getElem? (i := 13) rfl))) Via.refl e111 F115 F112 (Or.inr ⟨(hw _ (List.mem_of_getElem? (i := 14) rfl)), rfl, hnm⟩) (hw _ (List.mem_of_getElem? (i := 1) rfl)) (ty := .long) (by decide) rfl rfl (g := (mkF m 17 #[.val (.ref r0), .val (.long q1), .second, .val (.long q2), .second, .val (.long q3), .second, .val (.long q4), .second] [(.long q3), (.ref r0)])) rfl rfl (hb hby d1_17)
  have F121 := F112.wr W120
  have F122 := F113.other W120 (Or.inr (slot_ne (Or.inr (hw _ (List.mem_of_getElem? (i := 10) rfl))) (Or.inr (hw _ (List.mem_of_getElem? (i := 14) rfl))) (by decide) (t := .long) (t' := .long) (by decide) (by decide)))
  have F123 := F114.other W120 (Or.inr (slot_ne (Or.inr (hw _ (List.mem_of_getElem? (i := 12) rfl))) (Or.inr (hw _ (List.mem_of_getElem? (i := 14) rfl))) (by decide) (t := .long) (t' := .long) (by decide) (by decide)))
  have F124 := F115.same W120
  have F125 := F116.other W120 (Or.inr (slot_ne (Or.inr (hw _ (List.mem_of_getElem? (i := 16) rfl))) (Or.inr (hw _ (List.mem_of_getElem? (i := 14) rfl))) (by decide) (t := .long) (t' := .long) (by decide) (by decide)))
  have Z126 : n0 ≤ h120.size := Nat.le_trans Z117 (Keep.of_wr W120).1
  have K127 : Keep h0 h120 [r0] := K118.wr W120 (Or.inl (List.mem_of_getElem? (i := 0) rfl))
  have N128 := Fr.snoc X120 N119 g_r0
  obtain ⟨T129, h129, X129, e129, W129, st129⟩ := putF X120 hx hZ hown (host := "") (Or.inl (hw _ (List.mem_of_getElem? (i := 15) rfl))) Via.refl e120 F125 F121 (Or.inr ⟨(hw _ (List.mem_of_getElem? (i := 16) rfl)), rfl, hnm⟩) (hw _ (List.mem_of_getElem? (i := 1) rfl)) (ty := .long) (by decide) rfl rfl (g := (mkF m 23 #[.val (.ref r0), .val (.long q1), .second, .val (.long q2), .second, .val (.long q3), .second, .val (.long q4), .second] [(.long q4), (.ref r0)])) rfl rfl (hb hby d1_23)
  have F130 := F121.wr W129
  have F131 := F122.other W129 (Or.inr (slot_ne (Or.inr (hw _ (List.mem_of_getElem? (i := 10) rfl))) (Or.inr (hw _ (List.mem_of_getElem? (i := 16) rfl))) (by decide) (t := .long) (t' := .long) (by decide) (by decide)))
  have F132 := F123.other W129 (Or.inr (slot_ne (Or.inr (hw _ (List.mem_of_getElem? (i := 12) rfl))) (Or.inr (hw _ (List.mem_of_getElem? (i := 16) rfl))) (by decide) (t := .long) (t' := .long) (by decide) (by decide)))
  have F133 := F124.other W129 (Or.inr (slot_ne (Or.inr (hw _ (List.mem_of_getElem? (i := 14) rfl))) (Or.inr (hw _ (List.mem_of_getElem? (i := 16) rfl))) (by decide) (t := .long) (t' := .long) (by decide) (by decide)))
  have F134 := F125.same W129
  have Z135 : n0 ≤ h129.size := Nat.le_trans Z126 (Keep.of_wr W129).1
  have K136 : Keep h0 h129 [r0] := K127.wr W129 (Or.inl (List.mem_of_getElem? (i := 0) rfl))
  have N137 := Fr.snoc X129 N128 g_r0
  have hgo138 : ∀ t, Steps p.tables e below (T129.setTop (mkF m 26 #[.val (.ref r0), .val (.long q1), .second, .val (.long q2), .second, .val (.long q3), .second, .val (.long q4), .second] [])) t → Steps p.tables e below (s₁.setTop (mkF m 0 #[.val (.ref r0), .val (.long q1), .second, .val (.long q2), .second, .val (.long q3), .second, .val (.long q4), .second] [])) t := by
    intro t kt
    show Steps p.tables e below (s₁.setTop (mkF m 0 #[.val (.ref r0), .val (.long q1), .second, .val (.long q2), .second, .val (.long q3), .second, .val (.long q4), .second] [])) _
    refine XS.aloadN X0.here hx rfl (hb hby d1_0) rfl rfl ?_
    show Steps p.tables e below (s₁.setTop (mkF m 1 #[.val (.ref r0), .val (.long q1), .second, .val (.long q2), .second, .val (.long q3), .second, .val (.long q4), .second] [(.ref r0)])) _
    refine st101 _ ?_
    show Steps p.tables e below (T101.setTop (mkF m 4 #[.val (.ref r0), .val (.long q1), .second, .val (.long q2), .second, .val (.long q3), .second, .val (.long q4), .second] [])) _
    refine XS.aloadN X101.here hx rfl (hb hby d1_4) rfl rfl ?_
    show Steps p.tables e below (T101.setTop (mkF m 5 #[.val (.ref r0), .val (.long q1), .second, .val (.long q2), .second, .val (.long q3), .second, .val (.long q4), .second] [(.ref r0)])) _
    refine XS.lloadN X101.here hx rfl (hb hby d1_5) rfl ?_
    show Steps p.tables e below (T101.setTop (mkF m 6 #[.val (.ref r0), .val (.long q1), .second, .val (.long q2), .second, .val (.long q3), .second, .val (.long q4), .second] [(.long q1), (.ref r0)])) _
    refine st102 _ ?_
    show Steps p.tables e below (T102.setTop (mkF m 9 #[.val (.ref r0), .val (.long q1), .second, .val (.long q2), .second, .val (.long q3), .second, .val (.long q4), .second] [])) _
    refine XS.aloadN X102.here hx rfl (hb hby d1_9) rfl rfl ?_
    show Steps p.tables e below (T102.setTop (mkF m 10 #[.val (.ref r0), .val (.long q1), .second, .val (.long q2), .second, .val (.long q3), .second, .val (.long q4), .second] [(.ref r0)])) _
    refine XS.lloadN X102.here hx rfl (hb hby d1_10) rfl ?_
    show Steps p.tables e below (T102.setTop (mkF m 11 #[.val (.ref r0), .val (.long q1), .second, .val (.long q2), .second, .val (.long q3), .second, .val (.long q4), .second] [(.long q2), (.ref r0)])) _
    refine st111 _ ?_
    show Steps p.tables e below (T111.setTop (mkF m 14 #[.val (.ref r0), .val (.long q1), .second, .val (.long q2), .second, .val (.long q3), .second, .val (.long q4), .second] [])) _
    refine XS.aloadN X111.here hx rfl (hb hby d1_14) rfl rfl ?_
    show Steps p.tables e below (T111.setTop (mkF m 15 #[.val (.ref r0), .val (.long q1), .second, .val (.long q2), .second, .val (.long q3), .second, .val (.long q4), .second] [(.ref r0)])) _
    refine XS.lload X111.here hx rfl (hb hby d1_15) rfl ?_
    show Steps p.tables e below (T111.setTop (mkF m 17 #[.val (.ref r0), .val (.long q1), .second, .val (.long q2), .second, .val (.long q3), .second, .val (.long q4), .second] [(.long q3), (.ref r0)])) _
    refine st120 _ ?_
    show Steps p.tables e below (T120.setTop (mkF m 20 #[.val (.ref r0), .val (.long q1), .second, .val (.long q2), .second, .val (.long q3), .second, .val (.long q4), .second] [])) _
    refine XS.aloadN X120.here hx rfl (hb hby d1_20) rfl rfl ?_
    show Steps p.tables e below (T120.setTop (mkF m 21 #[.val (.ref r0), .val (.long q1), .second, .val (.long q2), .second, .val (.long q3), .second, .val (.long q4), .second] [(.ref r0)])) _
    refine XS.lload X120.here hx rfl (hb hby d1_21) rfl ?_
    show Steps p.tables e below (T120.setTop (mkF m 23 #[.val (.ref r0), .val (.long q1), .second, .val (.long q2), .second, .val (.long q3), .second, .val (.long q4), .second] [(.long q4), (.ref r0)])) _
    refine st129 _ ?_
    exact kt
  refine own_go hgo138 ?_
  exact own_retV X129 hx Bd.returns Bd.notSynchronized (hb hby d1_26) (by decide) (by decide) (by rw [e129]; exact ⟨(by rfl), N137, K136, F130, (by exact F131), (by exact F132), (by exact F133), (by exact F134)⟩)
theorem d3_0 : decode prog_4_method_2_code 0 = .ok (.aload_n 0, 1) := by decide +kernel
theorem d3_1 : decode prog_4_method_2_code 1 = .ok (.getfield 7, 3) := by decide +kernel
theorem d3_4 : decode prog_4_method_2_code 4 = .ok (.aload_n 0, 1) := by decide +kernel
theorem d3_5 : decode prog_4_method_2_code 5 = .ok (.getfield 13, 3) := by decide +kernel
theorem d3_8 : decode prog_4_method_2_code 8 = .ok (.ladd, 1) := by decide +kernel
theorem d3_9 : decode prog_4_method_2_code 9 = .ok (.aload_n 0, 1) := by decide +kernel
theorem d3_10 : decode prog_4_method_2_code 10 = .ok (.getfield 16, 3) := by decide +kernel
theorem d3_13 : decode prog_4_method_2_code 13 = .ok (.ladd, 1) := by decide +kernel
theorem d3_14 : decode prog_4_method_2_code 14 = .ok (.aload_n 0, 1) := by decide +kernel
theorem d3_15 : decode prog_4_method_2_code 15 = .ok (.getfield 19, 3) := by decide +kernel
theorem d3_18 : decode prog_4_method_2_code 18 = .ok (.ladd, 1) := by decide +kernel
theorem d3_19 : decode prog_4_method_2_code 19 = .ok (.lreturn, 1) := by decide +kernel
theorem ef_3 (m : MethodId) (r0 : Addr) : entryFrame m #[(.ref r0)] 1 = mkF m 0 #[.val (.ref r0)] [] := by (first | (simp [entryFrame, mkF, argsToLocals, Value.category]; done) | rfl)
def Q3 (Z : State) (r0 : Addr) (w1 : Int64) (w2 : Int64) (w3 : Int64) (w4 : Int64) (h0 : Heap) (n0 : Nat) (v : Option Value) (h : Heap) (L : List Loc) : Prop := v = some (.long (((w1 + w2) + w3) + w4)) ∧ Fr n0 L ∧ h = h0
set_option maxRecDepth 65536 in
set_option maxHeartbeats 40000000 in
theorem rm3 (l : Launch) (Z : State) (a0 : Array Value) (hw : ∀ d ∈ tables_1, d.before a0 Z = true) (ws : List Jvm.Cond) (r0 : Addr) (w1 : Int64) (w2 : Int64) (w3 : Int64) (w4 : Int64) (h0 : Heap) (n0 : Nat) (Z0 : n0 ≤ h0.size) (F_settledLocally_r0 : Fld Z h0 r0 "com/example/canonic/canonic/CheckStats" "settledLocally" "J" (.long w1)) (F_settledByKeptAnswer_r0 : Fld Z h0 r0 "com/example/canonic/canonic/CheckStats" "settledByKeptAnswer" "J" (.long w2)) (F_settledByRequest_r0 : Fld Z h0 r0 "com/example/canonic/canonic/CheckStats" "settledByRequest" "J" (.long w3)) (F_unknown_r0 : Fld Z h0 r0 "com/example/canonic/canonic/CheckStats" "unknown" "J" (.long w4)) :
    MetFree l (⟨"com/example/canonic/canonic/CheckStats", "checked", "()J"⟩ : MethodName) (head1 (Jvm.Cond.code (⟨"com/example/canonic/canonic/CheckStats", "checked", "()J"⟩ : MethodName) prog_4_method_2_code 1 (some .long) :: ws) ({ frames := 0, cells := 0, slots := 0, locals := 0 } : Room)) (fun a U => a = #[(.ref r0)] ∧ Z.Warmed39 U.vm ∧ U.heap = h0) (fun _ _ _ _ _ => True) (fun _ U o U' => ∃ v L, o = .returned v ∧ Q3 Z r0 w1 w2 w3 w4 h0 n0 v U'.heap L ∧ FrameEnd U o U' L ({ frames := 0, cells := 0, slots := 0, locals := 0 } : Room).cells ({ frames := 0, cells := 0, slots := 0, locals := 0 } : Room).slots) := by
  refine MetFree.of_bodySF (plainFor_of_name pn0) hisR ?_
  intro p e s m args below meth c s₁ Bd hml0 hP hK
  obtain ⟨rfl, hZ, hh⟩ := hP
  have hx := Bd.exec
  have hby := Bd.bytes
  have hml : c.maxLocals = 1 := hml0
  have hown : s.vm.findClass "com/example/canonic/canonic/CheckStats" = some m.cls := findClass_of_methodNamed Bd.named
  have hnm := (name_of_methodNamed Bd.named Bd.method).1
  have X0 : Stand p l e ({ frames := 0, cells := 0, slots := 0, locals := 0 } : Room) s m #[(.ref r0)] below meth c s₁ [] 0 0 := Stand.of_body Bd
  have e0 : s₁.heap = h0 := by rw [← hh, Bd.state]; rfl
  have N0 := Fr.nil n0
  have K0 : Keep h0 h0 [] := Keep.refl h0 _
  show own_Go p e below s (Q3 Z r0 w1 w2 w3 w4 h0 n0) ({ frames := 0, cells := 0, slots := 0, locals := 0 } : Room).cells ({ frames := 0, cells := 0, slots := 0, locals := 0 } : Room).slots (s₁.setTop (entryFrame m #[(.ref r0)] 1))
  refine own_go (fun t k => castTop (ef_3 m r0) k) ?_
  obtain ⟨T101, X101, e101, st101⟩ := getF X0 hx hZ hown (host := "") (Or.inl (hw _ (List.mem_of_getElem? (i := 9) rfl))) Via.refl e0 F_settledLocally_r0 (g := (mkF m 1 #[.val (.ref r0)] [(.ref r0)])) rfl rfl (hb hby d3_1)
  obtain ⟨T102, X102, e102, st102⟩ := getF X101 hx hZ hown (host := "") (Or.inl (hw _ (List.mem_of_getElem? (i := 11) rfl))) Via.refl e101 F_settledByKeptAnswer_r0 (g := (mkF m 5 #[.val (.ref r0)] [(.ref r0), (.long w1)])) rfl rfl (hb hby d3_5)
  obtain ⟨T103, X103, e103, st103⟩ := getF X102 hx hZ hown (host := "") (Or.inl (hw _ (List.mem_of_getElem? (i := 13) rfl))) Via.refl e102 F_settledByRequest_r0 (g := (mkF m 10 #[.val (.ref r0)] [(.ref r0), (.long (w1 + w2))])) rfl rfl (hb hby d3_10)
  obtain ⟨T104, X104, e104, st104⟩ := getF X103 hx hZ hown (host := "") (Or.inl (hw _ (List.mem_of_getElem? (i := 15) rfl))) Via.refl e103 F_unknown_r0 (g := (mkF m 15 #[.val (.ref r0)] [(.ref r0), (.long ((w1 + w2) + w3))])) rfl rfl (hb hby d3_15)
  obtain ⟨v1, hv1⟩ : ∃ z : Int64, z = (((w1 + w2) + w3) + w4) := ⟨_, rfl⟩
  have hgo105 : ∀ t, Steps p.tables e below (T104.setTop (mkF m 19 #[.val (.ref r0)] [(.long v1)])) t → Steps p.tables e below (s₁.setTop (mkF m 0 #[.val (.ref r0)] [])) t := by
    intro t kt
    show Steps p.tables e below (s₁.setTop (mkF m 0 #[.val (.ref r0)] [])) _
    refine XS.aloadN X0.here hx rfl (hb hby d3_0) rfl rfl ?_
    show Steps p.tables e below (s₁.setTop (mkF m 1 #[.val (.ref r0)] [(.ref r0)])) _
    refine st101 _ ?_
    show Steps p.tables e below (T101.setTop (mkF m 4 #[.val (.ref r0)] [(.long w1)])) _
    refine XS.aloadN X101.here hx rfl (hb hby d3_4) rfl rfl ?_
    show Steps p.tables e below (T101.setTop (mkF m 5 #[.val (.ref r0)] [(.ref r0), (.long w1)])) _
    refine st102 _ ?_
    show Steps p.tables e below (T102.setTop (mkF m 8 #[.val (.ref r0)] [(.long w2), (.long w1)])) _
    refine XS.ladd X102.here hx rfl (hb hby d3_8) rfl ?_
    show Steps p.tables e below (T102.setTop (mkF m 9 #[.val (.ref r0)] [(.long (w1 + w2))])) _
    refine XS.aloadN X102.here hx rfl (hb hby d3_9) rfl rfl ?_
    show Steps p.tables e below (T102.setTop (mkF m 10 #[.val (.ref r0)] [(.ref r0), (.long (w1 + w2))])) _
    refine st103 _ ?_
    show Steps p.tables e below (T103.setTop (mkF m 13 #[.val (.ref r0)] [(.long w3), (.long (w1 + w2))])) _
    refine XS.ladd X103.here hx rfl (hb hby d3_13) rfl ?_
    show Steps p.tables e below (T103.setTop (mkF m 14 #[.val (.ref r0)] [(.long ((w1 + w2) + w3))])) _
    refine XS.aloadN X103.here hx rfl (hb hby d3_14) rfl rfl ?_
    show Steps p.tables e below (T103.setTop (mkF m 15 #[.val (.ref r0)] [(.ref r0), (.long ((w1 + w2) + w3))])) _
    refine st104 _ ?_
    show Steps p.tables e below (T104.setTop (mkF m 18 #[.val (.ref r0)] [(.long w4), (.long ((w1 + w2) + w3))])) _
    refine XS.ladd X104.here hx rfl (hb hby d3_18) rfl ?_
    rw [← hv1]
    exact kt
  refine own_go hgo105 ?_
  exact own_retJ X104 hx Bd.returns Bd.notSynchronized (hb hby d3_19) (by decide) (by decide) (by rw [e104]; exact ⟨(by subst hv1; rfl), N0, rfl⟩)
theorem d4_0 : decode prog_4_method_3_code 0 = .ok (.aload_n 0, 1) := by decide +kernel
theorem d4_1 : decode prog_4_method_3_code 1 = .ok (.getfield 7, 3) := by decide +kernel
theorem d4_4 : decode prog_4_method_3_code 4 = .ok (.lreturn, 1) := by decide +kernel
theorem ef_4 (m : MethodId) (r0 : Addr) : entryFrame m #[(.ref r0)] 1 = mkF m 0 #[.val (.ref r0)] [] := by (first | (simp [entryFrame, mkF, argsToLocals, Value.category]; done) | rfl)
def Q4 (Z : State) (r0 : Addr) (w1 : Int64) (h0 : Heap) (n0 : Nat) (v : Option Value) (h : Heap) (L : List Loc) : Prop := v = some (.long w1) ∧ Fr n0 L ∧ h = h0
set_option maxRecDepth 65536 in
set_option maxHeartbeats 40000000 in
theorem rm4 (l : Launch) (Z : State) (a0 : Array Value) (hw : ∀ d ∈ tables_1, d.before a0 Z = true) (ws : List Jvm.Cond) (r0 : Addr) (w1 : Int64) (h0 : Heap) (n0 : Nat) (Z0 : n0 ≤ h0.size) (F_settledLocally_r0 : Fld Z h0 r0 "com/example/canonic/canonic/CheckStats" "settledLocally" "J" (.long w1)) :
    MetFree l (⟨"com/example/canonic/canonic/CheckStats", "settledLocally", "()J"⟩ : MethodName) (head1 (Jvm.Cond.code (⟨"com/example/canonic/canonic/CheckStats", "settledLocally", "()J"⟩ : MethodName) prog_4_method_3_code 1 (some .long) :: ws) ({ frames := 0, cells := 0, slots := 0, locals := 0 } : Room)) (fun a U => a = #[(.ref r0)] ∧ Z.Warmed39 U.vm ∧ U.heap = h0) (fun _ _ _ _ _ => True) (fun _ U o U' => ∃ v L, o = .returned v ∧ Q4 Z r0 w1 h0 n0 v U'.heap L ∧ FrameEnd U o U' L ({ frames := 0, cells := 0, slots := 0, locals := 0 } : Room).cells ({ frames := 0, cells := 0, slots := 0, locals := 0 } : Room).slots) := by
  refine MetFree.of_bodySF (plainFor_of_name pn0) hisR ?_
  intro p e s m args below meth c s₁ Bd hml0 hP hK
  obtain ⟨rfl, hZ, hh⟩ := hP
  have hx := Bd.exec
  have hby := Bd.bytes
  have hml : c.maxLocals = 1 := hml0
  have hown : s.vm.findClass "com/example/canonic/canonic/CheckStats" = some m.cls := findClass_of_methodNamed Bd.named
  have hnm := (name_of_methodNamed Bd.named Bd.method).1
  have X0 : Stand p l e ({ frames := 0, cells := 0, slots := 0, locals := 0 } : Room) s m #[(.ref r0)] below meth c s₁ [] 0 0 := Stand.of_body Bd
  have e0 : s₁.heap = h0 := by rw [← hh, Bd.state]; rfl
  have N0 := Fr.nil n0
  have K0 : Keep h0 h0 [] := Keep.refl h0 _
  show own_Go p e below s (Q4 Z r0 w1 h0 n0) ({ frames := 0, cells := 0, slots := 0, locals := 0 } : Room).cells ({ frames := 0, cells := 0, slots := 0, locals := 0 } : Room).slots (s₁.setTop (entryFrame m #[(.ref r0)] 1))
  refine own_go (fun t k => castTop (ef_4 m r0) k) ?_
  obtain ⟨T101, X101, e101, st101⟩ := getF X0 hx hZ hown (host := "") (Or.inl (hw _ (List.mem_of_getElem? (i := 9) rfl))) Via.refl e0 F_settledLocally_r0 (g := (mkF m 1 #[.val (.ref r0)] [(.ref r0)])) rfl rfl (hb hby d4_1)
  have hgo102 : ∀ t, Steps p.tables e below (T101.setTop (mkF m 4 #[.val (.ref r0)] [(.long w1)])) t → Steps p.tables e below (s₁.setTop (mkF m 0 #[.val (.ref r0)] [])) t := by
    intro t kt
    show Steps p.tables e below (s₁.setTop (mkF m 0 #[.val (.ref r0)] [])) _
    refine XS.aloadN X0.here hx rfl (hb hby d4_0) rfl rfl ?_
    show Steps p.tables e below (s₁.setTop (mkF m 1 #[.val (.ref r0)] [(.ref r0)])) _
    refine st101 _ ?_
    exact kt
  refine own_go hgo102 ?_
  exact own_retJ X101 hx Bd.returns Bd.notSynchronized (hb hby d4_4) (by decide) (by decide) (by rw [e101]; exact ⟨(by rfl), N0, rfl⟩)
theorem d5_0 : decode prog_4_method_4_code 0 = .ok (.aload_n 0, 1) := by decide +kernel
theorem d5_1 : decode prog_4_method_4_code 1 = .ok (.getfield 13, 3) := by decide +kernel
theorem d5_4 : decode prog_4_method_4_code 4 = .ok (.lreturn, 1) := by decide +kernel
theorem ef_5 (m : MethodId) (r0 : Addr) : entryFrame m #[(.ref r0)] 1 = mkF m 0 #[.val (.ref r0)] [] := by (first | (simp [entryFrame, mkF, argsToLocals, Value.category]; done) | rfl)
def Q5 (Z : State) (r0 : Addr) (w1 : Int64) (h0 : Heap) (n0 : Nat) (v : Option Value) (h : Heap) (L : List Loc) : Prop := v = some (.long w1) ∧ Fr n0 L ∧ h = h0
set_option maxRecDepth 65536 in
set_option maxHeartbeats 40000000 in
theorem rm5 (l : Launch) (Z : State) (a0 : Array Value) (hw : ∀ d ∈ tables_1, d.before a0 Z = true) (ws : List Jvm.Cond) (r0 : Addr) (w1 : Int64) (h0 : Heap) (n0 : Nat) (Z0 : n0 ≤ h0.size) (F_settledByKeptAnswer_r0 : Fld Z h0 r0 "com/example/canonic/canonic/CheckStats" "settledByKeptAnswer" "J" (.long w1)) :
    MetFree l (⟨"com/example/canonic/canonic/CheckStats", "settledByKeptAnswer", "()J"⟩ : MethodName) (head1 (Jvm.Cond.code (⟨"com/example/canonic/canonic/CheckStats", "settledByKeptAnswer", "()J"⟩ : MethodName) prog_4_method_4_code 1 (some .long) :: ws) ({ frames := 0, cells := 0, slots := 0, locals := 0 } : Room)) (fun a U => a = #[(.ref r0)] ∧ Z.Warmed39 U.vm ∧ U.heap = h0) (fun _ _ _ _ _ => True) (fun _ U o U' => ∃ v L, o = .returned v ∧ Q5 Z r0 w1 h0 n0 v U'.heap L ∧ FrameEnd U o U' L ({ frames := 0, cells := 0, slots := 0, locals := 0 } : Room).cells ({ frames := 0, cells := 0, slots := 0, locals := 0 } : Room).slots) := by
  refine MetFree.of_bodySF (plainFor_of_name pn0) hisR ?_
  intro p e s m args below meth c s₁ Bd hml0 hP hK
  obtain ⟨rfl, hZ, hh⟩ := hP
  have hx := Bd.exec
  have hby := Bd.bytes
  have hml : c.maxLocals = 1 := hml0
  have hown : s.vm.findClass "com/example/canonic/canonic/CheckStats" = some m.cls := findClass_of_methodNamed Bd.named
  have hnm := (name_of_methodNamed Bd.named Bd.method).1
  have X0 : Stand p l e ({ frames := 0, cells := 0, slots := 0, locals := 0 } : Room) s m #[(.ref r0)] below meth c s₁ [] 0 0 := Stand.of_body Bd
  have e0 : s₁.heap = h0 := by rw [← hh, Bd.state]; rfl
  have N0 := Fr.nil n0
  have K0 : Keep h0 h0 [] := Keep.refl h0 _
  show own_Go p e below s (Q5 Z r0 w1 h0 n0) ({ frames := 0, cells := 0, slots := 0, locals := 0 } : Room).cells ({ frames := 0, cells := 0, slots := 0, locals := 0 } : Room).slots (s₁.setTop (entryFrame m #[(.ref r0)] 1))
  refine own_go (fun t k => castTop (ef_5 m r0) k) ?_
  obtain ⟨T101, X101, e101, st101⟩ := getF X0 hx hZ hown (host := "") (Or.inl (hw _ (List.mem_of_getElem? (i := 11) rfl))) Via.refl e0 F_settledByKeptAnswer_r0 (g := (mkF m 1 #[.val (.ref r0)] [(.ref r0)])) rfl rfl (hb hby d5_1)
  have hgo102 : ∀ t, Steps p.tables e below (T101.setTop (mkF m 4 #[.val (.ref r0)] [(.long w1)])) t → Steps p.tables e below (s₁.setTop (mkF m 0 #[.val (.ref r0)] [])) t := by
    intro t kt
    show Steps p.tables e below (s₁.setTop (mkF m 0 #[.val (.ref r0)] [])) _
    refine XS.aloadN X0.here hx rfl (hb hby d5_0) rfl rfl ?_
    show Steps p.tables e below (s₁.setTop (mkF m 1 #[.val (.ref r0)] [(.ref r0)])) _
    refine st101 _ ?_
    exact kt
  refine own_go hgo102 ?_
  exact own_retJ X101 hx Bd.returns Bd.notSynchronized (hb hby d5_4) (by decide) (by decide) (by rw [e101]; exact ⟨(by rfl), N0, rfl⟩)
theorem d6_0 : decode prog_4_method_5_code 0 = .ok (.aload_n 0, 1) := by decide +kernel
theorem d6_1 : decode prog_4_method_5_code 1 = .ok (.getfield 16, 3) := by decide +kernel
theorem d6_4 : decode prog_4_method_5_code 4 = .ok (.lreturn, 1) := by decide +kernel
theorem ef_6 (m : MethodId) (r0 : Addr) : entryFrame m #[(.ref r0)] 1 = mkF m 0 #[.val (.ref r0)] [] := by (first | (simp [entryFrame, mkF, argsToLocals, Value.category]; done) | rfl)
def Q6 (Z : State) (r0 : Addr) (w1 : Int64) (h0 : Heap) (n0 : Nat) (v : Option Value) (h : Heap) (L : List Loc) : Prop := v = some (.long w1) ∧ Fr n0 L ∧ h = h0
set_option maxRecDepth 65536 in
set_option maxHeartbeats 40000000 in
theorem rm6 (l : Launch) (Z : State) (a0 : Array Value) (hw : ∀ d ∈ tables_1, d.before a0 Z = true) (ws : List Jvm.Cond) (r0 : Addr) (w1 : Int64) (h0 : Heap) (n0 : Nat) (Z0 : n0 ≤ h0.size) (F_settledByRequest_r0 : Fld Z h0 r0 "com/example/canonic/canonic/CheckStats" "settledByRequest" "J" (.long w1)) :
    MetFree l (⟨"com/example/canonic/canonic/CheckStats", "settledByRequest", "()J"⟩ : MethodName) (head1 (Jvm.Cond.code (⟨"com/example/canonic/canonic/CheckStats", "settledByRequest", "()J"⟩ : MethodName) prog_4_method_5_code 1 (some .long) :: ws) ({ frames := 0, cells := 0, slots := 0, locals := 0 } : Room)) (fun a U => a = #[(.ref r0)] ∧ Z.Warmed39 U.vm ∧ U.heap = h0) (fun _ _ _ _ _ => True) (fun _ U o U' => ∃ v L, o = .returned v ∧ Q6 Z r0 w1 h0 n0 v U'.heap L ∧ FrameEnd U o U' L ({ frames := 0, cells := 0, slots := 0, locals := 0 } : Room).cells ({ frames := 0, cells := 0, slots := 0, locals := 0 } : Room).slots) := by
  refine MetFree.of_bodySF (plainFor_of_name pn0) hisR ?_
  intro p e s m args below meth c s₁ Bd hml0 hP hK
  obtain ⟨rfl, hZ, hh⟩ := hP
  have hx := Bd.exec
  have hby := Bd.bytes
  have hml : c.maxLocals = 1 := hml0
  have hown : s.vm.findClass "com/example/canonic/canonic/CheckStats" = some m.cls := findClass_of_methodNamed Bd.named
  have hnm := (name_of_methodNamed Bd.named Bd.method).1
  have X0 : Stand p l e ({ frames := 0, cells := 0, slots := 0, locals := 0 } : Room) s m #[(.ref r0)] below meth c s₁ [] 0 0 := Stand.of_body Bd
  have e0 : s₁.heap = h0 := by rw [← hh, Bd.state]; rfl
  have N0 := Fr.nil n0
  have K0 : Keep h0 h0 [] := Keep.refl h0 _
  show own_Go p e below s (Q6 Z r0 w1 h0 n0) ({ frames := 0, cells := 0, slots := 0, locals := 0 } : Room).cells ({ frames := 0, cells := 0, slots := 0, locals := 0 } : Room).slots (s₁.setTop (entryFrame m #[(.ref r0)] 1))
  refine own_go (fun t k => castTop (ef_6 m r0) k) ?_
  obtain ⟨T101, X101, e101, st101⟩ := getF X0 hx hZ hown (host := "") (Or.inl (hw _ (List.mem_of_getElem? (i := 13) rfl))) Via.refl e0 F_settledByRequest_r0 (g := (mkF m 1 #[.val (.ref r0)] [(.ref r0)])) rfl rfl (hb hby d6_1)
  have hgo102 : ∀ t, Steps p.tables e below (T101.setTop (mkF m 4 #[.val (.ref r0)] [(.long w1)])) t → Steps p.tables e below (s₁.setTop (mkF m 0 #[.val (.ref r0)] [])) t := by
    intro t kt
    show Steps p.tables e below (s₁.setTop (mkF m 0 #[.val (.ref r0)] [])) _
    refine XS.aloadN X0.here hx rfl (hb hby d6_0) rfl rfl ?_
    show Steps p.tables e below (s₁.setTop (mkF m 1 #[.val (.ref r0)] [(.ref r0)])) _
    refine st101 _ ?_
    exact kt
  refine own_go hgo102 ?_
  exact own_retJ X101 hx Bd.returns Bd.notSynchronized (hb hby d6_4) (by decide) (by decide) (by rw [e101]; exact ⟨(by rfl), N0, rfl⟩)
theorem d7_0 : decode prog_4_method_6_code 0 = .ok (.aload_n 0, 1) := by decide +kernel
theorem d7_1 : decode prog_4_method_6_code 1 = .ok (.getfield 19, 3) := by decide +kernel
theorem d7_4 : decode prog_4_method_6_code 4 = .ok (.lreturn, 1) := by decide +kernel
theorem ef_7 (m : MethodId) (r0 : Addr) : entryFrame m #[(.ref r0)] 1 = mkF m 0 #[.val (.ref r0)] [] := by (first | (simp [entryFrame, mkF, argsToLocals, Value.category]; done) | rfl)
def Q7 (Z : State) (r0 : Addr) (w1 : Int64) (h0 : Heap) (n0 : Nat) (v : Option Value) (h : Heap) (L : List Loc) : Prop := v = some (.long w1) ∧ Fr n0 L ∧ h = h0
set_option maxRecDepth 65536 in
set_option maxHeartbeats 40000000 in
theorem rm7 (l : Launch) (Z : State) (a0 : Array Value) (hw : ∀ d ∈ tables_1, d.before a0 Z = true) (ws : List Jvm.Cond) (r0 : Addr) (w1 : Int64) (h0 : Heap) (n0 : Nat) (Z0 : n0 ≤ h0.size) (F_unknown_r0 : Fld Z h0 r0 "com/example/canonic/canonic/CheckStats" "unknown" "J" (.long w1)) :
    MetFree l (⟨"com/example/canonic/canonic/CheckStats", "unknown", "()J"⟩ : MethodName) (head1 (Jvm.Cond.code (⟨"com/example/canonic/canonic/CheckStats", "unknown", "()J"⟩ : MethodName) prog_4_method_6_code 1 (some .long) :: ws) ({ frames := 0, cells := 0, slots := 0, locals := 0 } : Room)) (fun a U => a = #[(.ref r0)] ∧ Z.Warmed39 U.vm ∧ U.heap = h0) (fun _ _ _ _ _ => True) (fun _ U o U' => ∃ v L, o = .returned v ∧ Q7 Z r0 w1 h0 n0 v U'.heap L ∧ FrameEnd U o U' L ({ frames := 0, cells := 0, slots := 0, locals := 0 } : Room).cells ({ frames := 0, cells := 0, slots := 0, locals := 0 } : Room).slots) := by
  refine MetFree.of_bodySF (plainFor_of_name pn0) hisR ?_
  intro p e s m args below meth c s₁ Bd hml0 hP hK
  obtain ⟨rfl, hZ, hh⟩ := hP
  have hx := Bd.exec
  have hby := Bd.bytes
  have hml : c.maxLocals = 1 := hml0
  have hown : s.vm.findClass "com/example/canonic/canonic/CheckStats" = some m.cls := findClass_of_methodNamed Bd.named
  have hnm := (name_of_methodNamed Bd.named Bd.method).1
  have X0 : Stand p l e ({ frames := 0, cells := 0, slots := 0, locals := 0 } : Room) s m #[(.ref r0)] below meth c s₁ [] 0 0 := Stand.of_body Bd
  have e0 : s₁.heap = h0 := by rw [← hh, Bd.state]; rfl
  have N0 := Fr.nil n0
  have K0 : Keep h0 h0 [] := Keep.refl h0 _
  show own_Go p e below s (Q7 Z r0 w1 h0 n0) ({ frames := 0, cells := 0, slots := 0, locals := 0 } : Room).cells ({ frames := 0, cells := 0, slots := 0, locals := 0 } : Room).slots (s₁.setTop (entryFrame m #[(.ref r0)] 1))
  refine own_go (fun t k => castTop (ef_7 m r0) k) ?_
  obtain ⟨T101, X101, e101, st101⟩ := getF X0 hx hZ hown (host := "") (Or.inl (hw _ (List.mem_of_getElem? (i := 15) rfl))) Via.refl e0 F_unknown_r0 (g := (mkF m 1 #[.val (.ref r0)] [(.ref r0)])) rfl rfl (hb hby d7_1)
  have hgo102 : ∀ t, Steps p.tables e below (T101.setTop (mkF m 4 #[.val (.ref r0)] [(.long w1)])) t → Steps p.tables e below (s₁.setTop (mkF m 0 #[.val (.ref r0)] [])) t := by
    intro t kt
    show Steps p.tables e below (s₁.setTop (mkF m 0 #[.val (.ref r0)] [])) _
    refine XS.aloadN X0.here hx rfl (hb hby d7_0) rfl rfl ?_
    show Steps p.tables e below (s₁.setTop (mkF m 1 #[.val (.ref r0)] [(.ref r0)])) _
    refine st101 _ ?_
    exact kt
  refine own_go hgo102 ?_
  exact own_retJ X101 hx Bd.returns Bd.notSynchronized (hb hby d7_4) (by decide) (by decide) (by rw [e101]; exact ⟨(by rfl), N0, rfl⟩)
theorem pd1 : parseMethodDescriptor "(JJJJ)V" = some ⟨[.long, .long, .long, .long], none⟩ := by decide +kernel
theorem pd2 : parseMethodDescriptor "()J" = some ⟨[], some .long⟩ := by decide +kernel
theorem ef_0 (m : MethodId) (q0 : Int64) (q1 : Int64) (q2 : Int64) (q3 : Int64) : entryFrame m #[(.long q0), (.long q1), (.long q2), (.long q3)] maxLocals = mkF m 0 #[.val (.long q0), .second, .val (.long q1), .second, .val (.long q2), .second, .val (.long q3), .second, .unset, .unset, .unset, .unset, .unset, .unset, .unset] [] := by (first | (simp [entryFrame, mkF, argsToLocals, Value.category, maxLocals]; done) | rfl)
set_option maxRecDepth 65536 in
theorem own_leaf0 {q0 q1 q2 q3 v1 v2 : Int64} {v7 v8 v9 v10 v12 v16 v17 v18 : Int32} (hv1 : v1 = (((q0 + q1) + q2) + q3)) (hv2 : v2 = ((q3 + q2) + (q1 + q0))) (hv7 : v7 = (if q3 = q3 then (1 : Int32) else (0 : Int32))) (hv8 : v8 = (if q2 = q2 then v7 else (0 : Int32))) (hv9 : v9 = (if q1 = q1 then v8 else (0 : Int32))) (hv10 : v10 = (if q0 = q0 then v9 else (0 : Int32))) (hv12 : v12 = (if v1 = ((q3 + q2) + (q1 + q0)) then (1 : Int32) else (0 : Int32))) (hv16 : v16 = (if v12 = (0 : Int32) then (0 : Int32) else (1 : Int32))) (hv17 : v17 = (if v10 = (0 : Int32) then (0 : Int32) else v16)) (hv18 : v18 = (if v1 = v2 then v17 else (0 : Int32))) : v18 = 1 := by
  have e : v1 = v2 := by rw [hv1, hv2]; ac_rfl
  rw [hv18, if_pos e, hv17, hv10, if_pos rfl, hv9, if_pos rfl, hv8, if_pos rfl, hv7, if_pos rfl, if_neg (by decide), hv16, hv12, if_pos (e.trans hv2), if_neg (by decide)]
theorem pn3 : plainName "com/example/canonic/canonic/CheckStatsCheckedPinLaw" = true := by first | (simp [plainName, overriddenIn]; done) | decide +kernel
def Q0 (Z : State) (q0 : Int64) (q1 : Int64) (q2 : Int64) (q3 : Int64) (h0 : Heap) (n0 : Nat) (v : Option Value) (h : Heap) (L : List Loc) : Prop := v = some (.int 1) ∧ Fr n0 L
set_option maxRecDepth 65536 in
set_option maxHeartbeats 40000000 in
theorem rm0 (l : Launch) (Z : State) (a0 : Array Value) (hw : ∀ d ∈ tables_1, d.before a0 Z = true) (ws : List Jvm.Cond) (q0 : Int64) (q1 : Int64) (q2 : Int64) (q3 : Int64) (h0 : Heap) (n0 : Nat) (Z0 : n0 ≤ h0.size) :
    MetFree l x (head1 (Jvm.Cond.code x code maxLocals ret :: ws) room_1) (fun a U => a = #[(.long q0), (.long q1), (.long q2), (.long q3)] ∧ Z.Warmed39 U.vm ∧ U.heap = h0) (fun _ _ _ _ _ => True) (fun _ U o U' => ∃ v L, o = .returned v ∧ Q0 Z q0 q1 q2 q3 h0 n0 v U'.heap L ∧ FrameEnd U o U' L room_1.cells room_1.slots) := by
  refine MetFree.of_bodySF (plainFor_of_name pn3) hisR ?_
  intro p e s m args below meth c s₁ Bd hml0 hP hK
  obtain ⟨rfl, hZ, hh⟩ := hP
  have hx := Bd.exec
  have hby := Bd.bytes
  have hml : c.maxLocals = 15 := hml0
  have hown : s.vm.findClass "com/example/canonic/canonic/CheckStatsCheckedPinLaw" = some m.cls := findClass_of_methodNamed Bd.named
  have hnm := (name_of_methodNamed Bd.named Bd.method).1
  have X0 : Stand p l e room_1 s m #[(.long q0), (.long q1), (.long q2), (.long q3)] below meth c s₁ [] 0 0 := Stand.of_body Bd
  have e0 : s₁.heap = h0 := by rw [← hh, Bd.state]; rfl
  have N0 := Fr.nil n0
  have K0 : Keep h0 h0 [] := Keep.refl h0 _
  show own_Go p e below s (Q0 Z q0 q1 q2 q3 h0 n0) room_1.cells room_1.slots (s₁.setTop (entryFrame m #[(.long q0), (.long q1), (.long q2), (.long q3)] maxLocals))
  refine own_go (fun t k => castTop (ef_0 m q0 q1 q2 q3) k) ?_
  obtain ⟨T101, h101, X101, e101, E101, A101, D101, -, st101⟩ := newO X0 hx hZ hown (hw _ (List.mem_of_getElem? (i := 0) rfl)) (hw _ (List.mem_of_getElem? (i := 1) rfl)) (hw _ (List.mem_of_getElem? (i := 2) rfl)) e0 (g := (mkF m 0 #[.val (.long q0), .second, .val (.long q1), .second, .val (.long q2), .second, .val (.long q3), .second, .unset, .unset, .unset, .unset, .unset, .unset, .unset] [])) rfl (hb hby at_0) (by decide) (by decide)
  obtain ⟨b101, g101⟩ : ∃ z, z = h0.size := ⟨_, rfl⟩
  rw [← g101] at A101 D101 st101
  have g_b101 : n0 ≤ b101 := Nat.le_trans Z0 (Nat.le_of_eq g101.symm)
  have sz_b101 : h0.size ≤ b101 := Nat.le_trans K0.1 (Nat.le_of_eq g101.symm)
  have Z102 : n0 ≤ h101.size := Nat.le_trans Z0 E101.1
  have K103 : Keep h0 h101 [] := K0.ext E101
  have F104 : Fld Z h101 b101 "com/example/canonic/canonic/CheckStats" "settledLocally" "J" (.long (0 : Int64)) := D101 (Or.inr (hw _ (List.mem_of_getElem? (i := 10) rfl))) (ty := .long) (by decide)
  have F105 : Fld Z h101 b101 "com/example/canonic/canonic/CheckStats" "settledByKeptAnswer" "J" (.long (0 : Int64)) := D101 (Or.inr (hw _ (List.mem_of_getElem? (i := 12) rfl))) (ty := .long) (by decide)
  have F106 : Fld Z h101 b101 "com/example/canonic/canonic/CheckStats" "settledByRequest" "J" (.long (0 : Int64)) := D101 (Or.inr (hw _ (List.mem_of_getElem? (i := 14) rfl))) (ty := .long) (by decide)
  have F107 : Fld Z h101 b101 "com/example/canonic/canonic/CheckStats" "unknown" "J" (.long (0 : Int64)) := D101 (Or.inr (hw _ (List.mem_of_getElem? (i := 16) rfl))) (ty := .long) (by decide)
  obtain ⟨_, _, ⟨T108, L108, k108, n108⟩, -, X108, ⟨Lc108, hQ108, l108, y108, z108⟩, st108⟩ := X101.specialBack hx (y := (⟨"com/example/canonic/canonic/CheckStats", "<init>", "(JJJJ)V"⟩ : MethodName)) rfl hown (mvT hZ (hw _ (List.mem_of_getElem? (i := 3) rfl))) (mvT hZ (hw _ (List.mem_of_getElem? (i := 4) rfl))) (mvT hZ (hw _ (List.mem_of_getElem? (i := 5) rfl))) (by decide) (backOf (W := 1) (rm1 l Z a0 hw [] b101 q0 q1 q2 q3 (0 : Int64) (0 : Int64) (0 : Int64) (0 : Int64) h101 n0 Z102 A101 F104 F105 F106 F107 g_b101) hZ (hw _ (List.mem_of_getElem? (i := 5) rfl)) (hw _ (List.mem_of_getElem? (i := 2) rfl)) (by decide) (by decide)) (g := (mkF m 10 #[.val (.long q0), .second, .val (.long q1), .second, .val (.long q2), .second, .val (.long q3), .second, .unset, .unset, .unset, .unset, .unset, .unset, .unset] [(.long q3), (.long q2), (.long q1), (.long q0), (.ref b101), (.ref b101)])) rfl (by rw [hml]; rfl) (Steps.refl _) (a := b101) (argsL := [(.long q0), (.long q1), (.long q2), (.long q3)]) (rest := [(.ref b101)]) (lenOf pd1 rfl) rfl (by show 2 * 0 + _ ≤ _; exact Nat.le_of_eq rfl) (hb hby at_10) (fun _ _ => ⟨rfl, e101, (by decide : 1 + 0 ≤ _), (by decide : 4 + 0 ≤ _)⟩)
  dsimp only [Pt.U, Pt.locs, Pt.cells, Pt.slots] at X108 l108 y108 z108 st108 hQ108
  subst l108 y108 z108
  obtain ⟨rfl, N108q, K108q, F108_0, F108_1, F108_2, F108_3, F108_4⟩ := hQ108
  have F109 := A101.keep K108q
  have Z110 : n0 ≤ T108.heap.size := Nat.le_trans Z102 K108q.1
  have K111 : Keep h0 T108.heap [] := K103.trans K108q (allS (Or.inr sz_b101) all0)
  have N108 := Fr.app N0 N108q
  obtain ⟨cq112, kq112, q112a, q112b, q112c⟩ := isOf hZ (rfl : T108.heap = T108.heap) F108_0
  obtain ⟨_, _, ⟨T112, L112, k112, n112⟩, -, X112, ⟨Lc112, hQ112, l112, y112, z112⟩, st112⟩ := X108.virtualBack hx (y := (⟨"com/example/canonic/canonic/CheckStats", "checked", "()J"⟩ : MethodName)) (z := (⟨"com/example/canonic/canonic/CheckStats", "checked", "()J"⟩ : MethodName)) hown (mvT hZ (hw _ (List.mem_of_getElem? (i := 17) rfl))) (mvT hZ (hw _ (List.mem_of_getElem? (i := 18) rfl))) (notFace_of_selects (args := #[]) (mvT hZ (hw _ (List.mem_of_getElem? (i := 20) rfl)))) (mvT hZ (hw _ (List.mem_of_getElem? (i := 20) rfl))) (mvT hZ (hw _ (List.mem_of_getElem? (i := 19) rfl))) (by decide) (backOf (W := 0) (rm3 l Z a0 hw [] b101 q0 q1 q2 q3 (T108.heap) n0 Z110 F108_1 F108_2 F108_3 F108_4) hZ (hw _ (List.mem_of_getElem? (i := 21) rfl)) (hw _ (List.mem_of_getElem? (i := 2) rfl)) (by decide) (by decide)) q112a q112c (g := (mkF m 17 #[.val (.long q0), .second, .val (.long q1), .second, .val (.long q2), .second, .val (.long q3), .second, .val (.ref b101), .unset, .unset, .unset, .unset, .unset, .unset] [(.ref b101)])) rfl (by rw [hml]; rfl) (Steps.refl _) (argsL := []) (rest := []) (lenOf pd2 rfl) rfl (by show 2 * 0 + _ ≤ _; exact Nat.le_of_eq rfl) (hb hby at_17) (fun _ _ => ⟨rfl, (rfl : T108.heap = T108.heap), (by decide : 1 + 0 ≤ _), (by decide : 4 + 0 ≤ _)⟩)
  dsimp only [Pt.U, Pt.locs, Pt.cells, Pt.slots] at X112 l112 y112 z112 st112 hQ112
  subst l112 y112 z112
  obtain ⟨rfl, N112q, e112⟩ := hQ112
  have N112 := Fr.app N108 N112q
  obtain ⟨v1, hv1⟩ : ∃ z : Int64, z = (((q0 + q1) + q2) + q3) := ⟨_, rfl⟩
  obtain ⟨v2, hv2⟩ : ∃ z : Int64, z = ((q3 + q2) + (q1 + q0)) := ⟨_, rfl⟩
  obtain ⟨cq113, kq113, q113a, q113b, q113c⟩ := isOf hZ e112 F108_0
  obtain ⟨_, _, ⟨T113, L113, k113, n113⟩, -, X113, ⟨Lc113, hQ113, l113, y113, z113⟩, st113⟩ := X112.virtualBack hx (y := (⟨"com/example/canonic/canonic/CheckStats", "settledLocally", "()J"⟩ : MethodName)) (z := (⟨"com/example/canonic/canonic/CheckStats", "settledLocally", "()J"⟩ : MethodName)) hown (mvT hZ (hw _ (List.mem_of_getElem? (i := 22) rfl))) (mvT hZ (hw _ (List.mem_of_getElem? (i := 23) rfl))) (notFace_of_selects (args := #[]) (mvT hZ (hw _ (List.mem_of_getElem? (i := 25) rfl)))) (mvT hZ (hw _ (List.mem_of_getElem? (i := 25) rfl))) (mvT hZ (hw _ (List.mem_of_getElem? (i := 24) rfl))) (by decide) (backOf (W := 0) (rm4 l Z a0 hw [] b101 q0 (T108.heap) n0 Z110 F108_1) hZ (hw _ (List.mem_of_getElem? (i := 26) rfl)) (hw _ (List.mem_of_getElem? (i := 2) rfl)) (by decide) (by decide)) q113a q113c (g := (mkF m 35 #[.val (.long q0), .second, .val (.long q1), .second, .val (.long q2), .second, .val (.long q3), .second, .val (.ref b101), .val (.long v1), .second, .val (.long v2), .second, .unset, .unset] [(.ref b101)])) rfl (by rw [hml]; rfl) (Steps.refl _) (argsL := []) (rest := []) (lenOf pd2 rfl) rfl (by show 2 * 0 + _ ≤ _; exact Nat.le_of_eq rfl) (hb hby at_35) (fun _ _ => ⟨rfl, e112, (by decide : 1 + 0 ≤ _), (by decide : 4 + 0 ≤ _)⟩)
  dsimp only [Pt.U, Pt.locs, Pt.cells, Pt.slots] at X113 l113 y113 z113 st113 hQ113
  subst l113 y113 z113
  obtain ⟨rfl, N113q, e113⟩ := hQ113
  have N113 := Fr.app N112 N113q
  obtain ⟨v7, hv7⟩ : ∃ z : Int32, z = (if q3 = q3 then (1 : Int32) else (0 : Int32)) := ⟨_, rfl⟩
  obtain ⟨v8, hv8⟩ : ∃ z : Int32, z = (if q2 = q2 then v7 else (0 : Int32)) := ⟨_, rfl⟩
  obtain ⟨v9, hv9⟩ : ∃ z : Int32, z = (if q1 = q1 then v8 else (0 : Int32)) := ⟨_, rfl⟩
  obtain ⟨v10, hv10⟩ : ∃ z : Int32, z = (if q0 = q0 then v9 else (0 : Int32)) := ⟨_, rfl⟩
  obtain ⟨T128, lc128, X128, N128, e128, st128⟩ := own_mrg (n0 := n0) (h := T108.heap) (g := (mkF m 40 #[.val (.long q0), .second, .val (.long q1), .second, .val (.long q2), .second, .val (.long q3), .second, .val (.ref b101), .val (.long v1), .second, .val (.long v2), .second, .unset, .unset] [(.int (lcmpW q0 q0))])) (g' := (mkF m 80 #[.val (.long q0), .second, .val (.long q1), .second, .val (.long q2), .second, .val (.long q3), .second, .val (.ref b101), .val (.long v1), .second, .val (.long v2), .second, .unset, .unset] [(.int v10)])) X113 (by
    by_cases hc40_3 : q0 = q0
    · obtain ⟨cq114, kq114, q114a, q114b, q114c⟩ := isOf hZ e113 F108_0
      obtain ⟨_, _, ⟨T114, L114, k114, n114⟩, -, X114, ⟨Lc114, hQ114, l114, y114, z114⟩, st114⟩ := X113.virtualBack hx (y := (⟨"com/example/canonic/canonic/CheckStats", "settledByKeptAnswer", "()J"⟩ : MethodName)) (z := (⟨"com/example/canonic/canonic/CheckStats", "settledByKeptAnswer", "()J"⟩ : MethodName)) hown (mvT hZ (hw _ (List.mem_of_getElem? (i := 27) rfl))) (mvT hZ (hw _ (List.mem_of_getElem? (i := 28) rfl))) (notFace_of_selects (args := #[]) (mvT hZ (hw _ (List.mem_of_getElem? (i := 30) rfl)))) (mvT hZ (hw _ (List.mem_of_getElem? (i := 30) rfl))) (mvT hZ (hw _ (List.mem_of_getElem? (i := 29) rfl))) (by decide) (backOf (W := 0) (rm5 l Z a0 hw [] b101 q1 (T108.heap) n0 Z110 F108_2) hZ (hw _ (List.mem_of_getElem? (i := 31) rfl)) (hw _ (List.mem_of_getElem? (i := 2) rfl)) (by decide) (by decide)) q114a q114c (g := (mkF m 45 #[.val (.long q0), .second, .val (.long q1), .second, .val (.long q2), .second, .val (.long q3), .second, .val (.ref b101), .val (.long v1), .second, .val (.long v2), .second, .unset, .unset] [(.ref b101)])) rfl (by rw [hml]; rfl) (Steps.refl _) (argsL := []) (rest := []) (lenOf pd2 rfl) rfl (by show 2 * 0 + _ ≤ _; exact Nat.le_of_eq rfl) (hb hby at_45) (fun _ _ => ⟨rfl, e113, (by decide : 1 + 0 ≤ _), (by decide : 4 + 0 ≤ _)⟩)
      dsimp only [Pt.U, Pt.locs, Pt.cells, Pt.slots] at X114 l114 y114 z114 st114 hQ114
      subst l114 y114 z114
      obtain ⟨rfl, N114q, e114⟩ := hQ114
      have N114 := Fr.app N113 N114q
      obtain ⟨T125, lc125, X125, N125, e125, st125⟩ := own_mrg (n0 := n0) (h := T108.heap) (g := (mkF m 50 #[.val (.long q0), .second, .val (.long q1), .second, .val (.long q2), .second, .val (.long q3), .second, .val (.ref b101), .val (.long v1), .second, .val (.long v2), .second, .unset, .unset] [(.int (lcmpW q1 q1))])) (g' := (mkF m 80 #[.val (.long q0), .second, .val (.long q1), .second, .val (.long q2), .second, .val (.long q3), .second, .val (.ref b101), .val (.long v1), .second, .val (.long v2), .second, .unset, .unset] [(.int v9)])) X114 (by
        by_cases hc50_4 : q1 = q1
        · obtain ⟨cq115, kq115, q115a, q115b, q115c⟩ := isOf hZ e114 F108_0
          obtain ⟨_, _, ⟨T115, L115, k115, n115⟩, -, X115, ⟨Lc115, hQ115, l115, y115, z115⟩, st115⟩ := X114.virtualBack hx (y := (⟨"com/example/canonic/canonic/CheckStats", "settledByRequest", "()J"⟩ : MethodName)) (z := (⟨"com/example/canonic/canonic/CheckStats", "settledByRequest", "()J"⟩ : MethodName)) hown (mvT hZ (hw _ (List.mem_of_getElem? (i := 32) rfl))) (mvT hZ (hw _ (List.mem_of_getElem? (i := 33) rfl))) (notFace_of_selects (args := #[]) (mvT hZ (hw _ (List.mem_of_getElem? (i := 35) rfl)))) (mvT hZ (hw _ (List.mem_of_getElem? (i := 35) rfl))) (mvT hZ (hw _ (List.mem_of_getElem? (i := 34) rfl))) (by decide) (backOf (W := 0) (rm6 l Z a0 hw [] b101 q2 (T108.heap) n0 Z110 F108_3) hZ (hw _ (List.mem_of_getElem? (i := 36) rfl)) (hw _ (List.mem_of_getElem? (i := 2) rfl)) (by decide) (by decide)) q115a q115c (g := (mkF m 55 #[.val (.long q0), .second, .val (.long q1), .second, .val (.long q2), .second, .val (.long q3), .second, .val (.ref b101), .val (.long v1), .second, .val (.long v2), .second, .unset, .unset] [(.ref b101)])) rfl (by rw [hml]; rfl) (Steps.refl _) (argsL := []) (rest := []) (lenOf pd2 rfl) rfl (by show 2 * 0 + _ ≤ _; exact Nat.le_of_eq rfl) (hb hby at_55) (fun _ _ => ⟨rfl, e114, (by decide : 1 + 0 ≤ _), (by decide : 4 + 0 ≤ _)⟩)
          dsimp only [Pt.U, Pt.locs, Pt.cells, Pt.slots] at X115 l115 y115 z115 st115 hQ115
          subst l115 y115 z115
          obtain ⟨rfl, N115q, e115⟩ := hQ115
          have N115 := Fr.app N114 N115q
          obtain ⟨T122, lc122, X122, N122, e122, st122⟩ := own_mrg (n0 := n0) (h := T108.heap) (g := (mkF m 61 #[.val (.long q0), .second, .val (.long q1), .second, .val (.long q2), .second, .val (.long q3), .second, .val (.ref b101), .val (.long v1), .second, .val (.long v2), .second, .unset, .unset] [(.int (lcmpW q2 q2))])) (g' := (mkF m 80 #[.val (.long q0), .second, .val (.long q1), .second, .val (.long q2), .second, .val (.long q3), .second, .val (.ref b101), .val (.long v1), .second, .val (.long v2), .second, .unset, .unset] [(.int v8)])) X115 (by
            by_cases hc61_5 : q2 = q2
            · obtain ⟨cq116, kq116, q116a, q116b, q116c⟩ := isOf hZ e115 F108_0
              obtain ⟨_, _, ⟨T116, L116, k116, n116⟩, -, X116, ⟨Lc116, hQ116, l116, y116, z116⟩, st116⟩ := X115.virtualBack hx (y := (⟨"com/example/canonic/canonic/CheckStats", "unknown", "()J"⟩ : MethodName)) (z := (⟨"com/example/canonic/canonic/CheckStats", "unknown", "()J"⟩ : MethodName)) hown (mvT hZ (hw _ (List.mem_of_getElem? (i := 37) rfl))) (mvT hZ (hw _ (List.mem_of_getElem? (i := 38) rfl))) (notFace_of_selects (args := #[]) (mvT hZ (hw _ (List.mem_of_getElem? (i := 40) rfl)))) (mvT hZ (hw _ (List.mem_of_getElem? (i := 40) rfl))) (mvT hZ (hw _ (List.mem_of_getElem? (i := 39) rfl))) (by decide) (backOf (W := 0) (rm7 l Z a0 hw [] b101 q3 (T108.heap) n0 Z110 F108_4) hZ (hw _ (List.mem_of_getElem? (i := 41) rfl)) (hw _ (List.mem_of_getElem? (i := 2) rfl)) (by decide) (by decide)) q116a q116c (g := (mkF m 66 #[.val (.long q0), .second, .val (.long q1), .second, .val (.long q2), .second, .val (.long q3), .second, .val (.ref b101), .val (.long v1), .second, .val (.long v2), .second, .unset, .unset] [(.ref b101)])) rfl (by rw [hml]; rfl) (Steps.refl _) (argsL := []) (rest := []) (lenOf pd2 rfl) rfl (by show 2 * 0 + _ ≤ _; exact Nat.le_of_eq rfl) (hb hby at_66) (fun _ _ => ⟨rfl, e115, (by decide : 1 + 0 ≤ _), (by decide : 4 + 0 ≤ _)⟩)
              dsimp only [Pt.U, Pt.locs, Pt.cells, Pt.slots] at X116 l116 y116 z116 st116 hQ116
              subst l116 y116 z116
              obtain ⟨rfl, N116q, e116⟩ := hQ116
              have N116 := Fr.app N115 N116q
              obtain ⟨T119, lc119, X119, N119, e119, st119⟩ := own_mrg (n0 := n0) (h := T108.heap) (g := (mkF m 72 #[.val (.long q0), .second, .val (.long q1), .second, .val (.long q2), .second, .val (.long q3), .second, .val (.ref b101), .val (.long v1), .second, .val (.long v2), .second, .unset, .unset] [(.int (lcmpW q3 q3))])) (g' := (mkF m 80 #[.val (.long q0), .second, .val (.long q1), .second, .val (.long q2), .second, .val (.long q3), .second, .val (.ref b101), .val (.long v1), .second, .val (.long v2), .second, .unset, .unset] [(.int v7)])) X116 (by
                by_cases hc72_6 : q3 = q3
                · have hgo117 : ∀ t, Steps p.tables e below (T116.setTop (mkF m 80 #[.val (.long q0), .second, .val (.long q1), .second, .val (.long q2), .second, .val (.long q3), .second, .val (.ref b101), .val (.long v1), .second, .val (.long v2), .second, .unset, .unset] [(.int (1 : Int32))])) t → Steps p.tables e below (T116.setTop (mkF m 72 #[.val (.long q0), .second, .val (.long q1), .second, .val (.long q2), .second, .val (.long q3), .second, .val (.ref b101), .val (.long v1), .second, .val (.long v2), .second, .unset, .unset] [(.int (lcmpW q3 q3))])) t := by
                    intro t kt
                    show Steps p.tables e below (T116.setTop (mkF m 72 #[.val (.long q0), .second, .val (.long q1), .second, .val (.long q2), .second, .val (.long q3), .second, .val (.ref b101), .val (.long v1), .second, .val (.long v2), .second, .unset, .unset] [(.int (lcmpW q3 q3))])) _
                    refine XS.ifNo X116.here hx rfl (hb hby at_72) rfl ((if0 _ _).trans (teq (own_lc_eq hc72_6)).2) ?_
                    show Steps p.tables e below (T116.setTop (mkF m 75 #[.val (.long q0), .second, .val (.long q1), .second, .val (.long q2), .second, .val (.long q3), .second, .val (.ref b101), .val (.long v1), .second, .val (.long v2), .second, .unset, .unset] [])) _
                    refine XS.iconst X116.here hx rfl (hb hby at_75) ?_
                    show Steps p.tables e below (T116.setTop (mkF m 76 #[.val (.long q0), .second, .val (.long q1), .second, .val (.long q2), .second, .val (.long q3), .second, .val (.ref b101), .val (.long v1), .second, .val (.long v2), .second, .unset, .unset] [(.int (1 : Int32))])) _
                    refine XS.goto X116.here hx rfl (pc0 := 76) (pc' := 80) rfl (hb hby at_76) (by decide) (by decide) ?_
                    exact kt
                  refine own_arm hgo117 ?_
                  exact own_armEnd X116 N116 e116 (by rw [hv7.trans (if_pos hc72_6)])
                · have hgo118 : ∀ t, Steps p.tables e below (T116.setTop (mkF m 80 #[.val (.long q0), .second, .val (.long q1), .second, .val (.long q2), .second, .val (.long q3), .second, .val (.ref b101), .val (.long v1), .second, .val (.long v2), .second, .unset, .unset] [(.int (0 : Int32))])) t → Steps p.tables e below (T116.setTop (mkF m 72 #[.val (.long q0), .second, .val (.long q1), .second, .val (.long q2), .second, .val (.long q3), .second, .val (.ref b101), .val (.long v1), .second, .val (.long v2), .second, .unset, .unset] [(.int (lcmpW q3 q3))])) t := by
                    intro t kt
                    show Steps p.tables e below (T116.setTop (mkF m 72 #[.val (.long q0), .second, .val (.long q1), .second, .val (.long q2), .second, .val (.long q3), .second, .val (.ref b101), .val (.long v1), .second, .val (.long v2), .second, .unset, .unset] [(.int (lcmpW q3 q3))])) _
                    refine XS.ifYes X116.here hx rfl (pc0 := 72) (pc' := 79) rfl (hb hby at_72) rfl ((if0 _ _).trans (feq (own_lc_neq hc72_6)).2) (by decide) (by decide) ?_
                    show Steps p.tables e below (T116.setTop (mkF m 79 #[.val (.long q0), .second, .val (.long q1), .second, .val (.long q2), .second, .val (.long q3), .second, .val (.ref b101), .val (.long v1), .second, .val (.long v2), .second, .unset, .unset] [])) _
                    refine XS.iconst X116.here hx rfl (hb hby at_79) ?_
                    exact kt
                  refine own_arm hgo118 ?_
                  exact own_armEnd X116 N116 e116 (by rw [hv7.trans (if_neg hc72_6)]))
              have hgo120 : ∀ t, Steps p.tables e below (T119.setTop (mkF m 80 #[.val (.long q0), .second, .val (.long q1), .second, .val (.long q2), .second, .val (.long q3), .second, .val (.ref b101), .val (.long v1), .second, .val (.long v2), .second, .unset, .unset] [(.int v7)])) t → Steps p.tables e below (T115.setTop (mkF m 61 #[.val (.long q0), .second, .val (.long q1), .second, .val (.long q2), .second, .val (.long q3), .second, .val (.ref b101), .val (.long v1), .second, .val (.long v2), .second, .unset, .unset] [(.int (lcmpW q2 q2))])) t := by
                intro t kt
                show Steps p.tables e below (T115.setTop (mkF m 61 #[.val (.long q0), .second, .val (.long q1), .second, .val (.long q2), .second, .val (.long q3), .second, .val (.ref b101), .val (.long v1), .second, .val (.long v2), .second, .unset, .unset] [(.int (lcmpW q2 q2))])) _
                refine XS.ifNo X115.here hx rfl (hb hby at_61) rfl ((if0 _ _).trans (teq (own_lc_eq hc61_5)).2) ?_
                show Steps p.tables e below (T115.setTop (mkF m 64 #[.val (.long q0), .second, .val (.long q1), .second, .val (.long q2), .second, .val (.long q3), .second, .val (.ref b101), .val (.long v1), .second, .val (.long v2), .second, .unset, .unset] [])) _
                refine XS.aload X115.here hx rfl (hb hby at_64) rfl rfl ?_
                show Steps p.tables e below (T115.setTop (mkF m 66 #[.val (.long q0), .second, .val (.long q1), .second, .val (.long q2), .second, .val (.long q3), .second, .val (.ref b101), .val (.long v1), .second, .val (.long v2), .second, .unset, .unset] [(.ref b101)])) _
                refine st116.trans ?_
                show Steps p.tables e below (T116.setTop (mkF m 69 #[.val (.long q0), .second, .val (.long q1), .second, .val (.long q2), .second, .val (.long q3), .second, .val (.ref b101), .val (.long v1), .second, .val (.long v2), .second, .unset, .unset] [(.long q3)])) _
                refine XS.lload X116.here hx rfl (hb hby at_69) rfl ?_
                show Steps p.tables e below (T116.setTop (mkF m 71 #[.val (.long q0), .second, .val (.long q1), .second, .val (.long q2), .second, .val (.long q3), .second, .val (.ref b101), .val (.long v1), .second, .val (.long v2), .second, .unset, .unset] [(.long q3), (.long q3)])) _
                refine XS.lcmp X116.here hx rfl (hb hby at_71) rfl ?_
                show Steps p.tables e below (T116.setTop (mkF m 72 #[.val (.long q0), .second, .val (.long q1), .second, .val (.long q2), .second, .val (.long q3), .second, .val (.ref b101), .val (.long v1), .second, .val (.long v2), .second, .unset, .unset] [(.int (lcmpW q3 q3))])) _
                refine st119 _ ?_
                exact kt
              refine own_arm hgo120 ?_
              exact own_armEnd X119 N119 e119 (by rw [hv8.trans (if_pos hc61_5)])
            · have hgo121 : ∀ t, Steps p.tables e below (T115.setTop (mkF m 80 #[.val (.long q0), .second, .val (.long q1), .second, .val (.long q2), .second, .val (.long q3), .second, .val (.ref b101), .val (.long v1), .second, .val (.long v2), .second, .unset, .unset] [(.int (0 : Int32))])) t → Steps p.tables e below (T115.setTop (mkF m 61 #[.val (.long q0), .second, .val (.long q1), .second, .val (.long q2), .second, .val (.long q3), .second, .val (.ref b101), .val (.long v1), .second, .val (.long v2), .second, .unset, .unset] [(.int (lcmpW q2 q2))])) t := by
                intro t kt
                show Steps p.tables e below (T115.setTop (mkF m 61 #[.val (.long q0), .second, .val (.long q1), .second, .val (.long q2), .second, .val (.long q3), .second, .val (.ref b101), .val (.long v1), .second, .val (.long v2), .second, .unset, .unset] [(.int (lcmpW q2 q2))])) _
                refine XS.ifYes X115.here hx rfl (pc0 := 61) (pc' := 79) rfl (hb hby at_61) rfl ((if0 _ _).trans (feq (own_lc_neq hc61_5)).2) (by decide) (by decide) ?_
                show Steps p.tables e below (T115.setTop (mkF m 79 #[.val (.long q0), .second, .val (.long q1), .second, .val (.long q2), .second, .val (.long q3), .second, .val (.ref b101), .val (.long v1), .second, .val (.long v2), .second, .unset, .unset] [])) _
                refine XS.iconst X115.here hx rfl (hb hby at_79) ?_
                exact kt
              refine own_arm hgo121 ?_
              exact own_armEnd X115 N115 e115 (by rw [hv8.trans (if_neg hc61_5)]))
          have hgo123 : ∀ t, Steps p.tables e below (T122.setTop (mkF m 80 #[.val (.long q0), .second, .val (.long q1), .second, .val (.long q2), .second, .val (.long q3), .second, .val (.ref b101), .val (.long v1), .second, .val (.long v2), .second, .unset, .unset] [(.int v8)])) t → Steps p.tables e below (T114.setTop (mkF m 50 #[.val (.long q0), .second, .val (.long q1), .second, .val (.long q2), .second, .val (.long q3), .second, .val (.ref b101), .val (.long v1), .second, .val (.long v2), .second, .unset, .unset] [(.int (lcmpW q1 q1))])) t := by
            intro t kt
            show Steps p.tables e below (T114.setTop (mkF m 50 #[.val (.long q0), .second, .val (.long q1), .second, .val (.long q2), .second, .val (.long q3), .second, .val (.ref b101), .val (.long v1), .second, .val (.long v2), .second, .unset, .unset] [(.int (lcmpW q1 q1))])) _
            refine XS.ifNo X114.here hx rfl (hb hby at_50) rfl ((if0 _ _).trans (teq (own_lc_eq hc50_4)).2) ?_
            show Steps p.tables e below (T114.setTop (mkF m 53 #[.val (.long q0), .second, .val (.long q1), .second, .val (.long q2), .second, .val (.long q3), .second, .val (.ref b101), .val (.long v1), .second, .val (.long v2), .second, .unset, .unset] [])) _
            refine XS.aload X114.here hx rfl (hb hby at_53) rfl rfl ?_
            show Steps p.tables e below (T114.setTop (mkF m 55 #[.val (.long q0), .second, .val (.long q1), .second, .val (.long q2), .second, .val (.long q3), .second, .val (.ref b101), .val (.long v1), .second, .val (.long v2), .second, .unset, .unset] [(.ref b101)])) _
            refine st115.trans ?_
            show Steps p.tables e below (T115.setTop (mkF m 58 #[.val (.long q0), .second, .val (.long q1), .second, .val (.long q2), .second, .val (.long q3), .second, .val (.ref b101), .val (.long v1), .second, .val (.long v2), .second, .unset, .unset] [(.long q2)])) _
            refine XS.lload X115.here hx rfl (hb hby at_58) rfl ?_
            show Steps p.tables e below (T115.setTop (mkF m 60 #[.val (.long q0), .second, .val (.long q1), .second, .val (.long q2), .second, .val (.long q3), .second, .val (.ref b101), .val (.long v1), .second, .val (.long v2), .second, .unset, .unset] [(.long q2), (.long q2)])) _
            refine XS.lcmp X115.here hx rfl (hb hby at_60) rfl ?_
            show Steps p.tables e below (T115.setTop (mkF m 61 #[.val (.long q0), .second, .val (.long q1), .second, .val (.long q2), .second, .val (.long q3), .second, .val (.ref b101), .val (.long v1), .second, .val (.long v2), .second, .unset, .unset] [(.int (lcmpW q2 q2))])) _
            refine st122 _ ?_
            exact kt
          refine own_arm hgo123 ?_
          exact own_armEnd X122 N122 e122 (by rw [hv9.trans (if_pos hc50_4)])
        · have hgo124 : ∀ t, Steps p.tables e below (T114.setTop (mkF m 80 #[.val (.long q0), .second, .val (.long q1), .second, .val (.long q2), .second, .val (.long q3), .second, .val (.ref b101), .val (.long v1), .second, .val (.long v2), .second, .unset, .unset] [(.int (0 : Int32))])) t → Steps p.tables e below (T114.setTop (mkF m 50 #[.val (.long q0), .second, .val (.long q1), .second, .val (.long q2), .second, .val (.long q3), .second, .val (.ref b101), .val (.long v1), .second, .val (.long v2), .second, .unset, .unset] [(.int (lcmpW q1 q1))])) t := by
            intro t kt
            show Steps p.tables e below (T114.setTop (mkF m 50 #[.val (.long q0), .second, .val (.long q1), .second, .val (.long q2), .second, .val (.long q3), .second, .val (.ref b101), .val (.long v1), .second, .val (.long v2), .second, .unset, .unset] [(.int (lcmpW q1 q1))])) _
            refine XS.ifYes X114.here hx rfl (pc0 := 50) (pc' := 79) rfl (hb hby at_50) rfl ((if0 _ _).trans (feq (own_lc_neq hc50_4)).2) (by decide) (by decide) ?_
            show Steps p.tables e below (T114.setTop (mkF m 79 #[.val (.long q0), .second, .val (.long q1), .second, .val (.long q2), .second, .val (.long q3), .second, .val (.ref b101), .val (.long v1), .second, .val (.long v2), .second, .unset, .unset] [])) _
            refine XS.iconst X114.here hx rfl (hb hby at_79) ?_
            exact kt
          refine own_arm hgo124 ?_
          exact own_armEnd X114 N114 e114 (by rw [hv9.trans (if_neg hc50_4)]))
      have hgo126 : ∀ t, Steps p.tables e below (T125.setTop (mkF m 80 #[.val (.long q0), .second, .val (.long q1), .second, .val (.long q2), .second, .val (.long q3), .second, .val (.ref b101), .val (.long v1), .second, .val (.long v2), .second, .unset, .unset] [(.int v9)])) t → Steps p.tables e below (T113.setTop (mkF m 40 #[.val (.long q0), .second, .val (.long q1), .second, .val (.long q2), .second, .val (.long q3), .second, .val (.ref b101), .val (.long v1), .second, .val (.long v2), .second, .unset, .unset] [(.int (lcmpW q0 q0))])) t := by
        intro t kt
        show Steps p.tables e below (T113.setTop (mkF m 40 #[.val (.long q0), .second, .val (.long q1), .second, .val (.long q2), .second, .val (.long q3), .second, .val (.ref b101), .val (.long v1), .second, .val (.long v2), .second, .unset, .unset] [(.int (lcmpW q0 q0))])) _
        refine XS.ifNo X113.here hx rfl (hb hby at_40) rfl ((if0 _ _).trans (teq (own_lc_eq hc40_3)).2) ?_
        show Steps p.tables e below (T113.setTop (mkF m 43 #[.val (.long q0), .second, .val (.long q1), .second, .val (.long q2), .second, .val (.long q3), .second, .val (.ref b101), .val (.long v1), .second, .val (.long v2), .second, .unset, .unset] [])) _
        refine XS.aload X113.here hx rfl (hb hby at_43) rfl rfl ?_
        show Steps p.tables e below (T113.setTop (mkF m 45 #[.val (.long q0), .second, .val (.long q1), .second, .val (.long q2), .second, .val (.long q3), .second, .val (.ref b101), .val (.long v1), .second, .val (.long v2), .second, .unset, .unset] [(.ref b101)])) _
        refine st114.trans ?_
        show Steps p.tables e below (T114.setTop (mkF m 48 #[.val (.long q0), .second, .val (.long q1), .second, .val (.long q2), .second, .val (.long q3), .second, .val (.ref b101), .val (.long v1), .second, .val (.long v2), .second, .unset, .unset] [(.long q1)])) _
        refine XS.lloadN X114.here hx rfl (hb hby at_48) rfl ?_
        show Steps p.tables e below (T114.setTop (mkF m 49 #[.val (.long q0), .second, .val (.long q1), .second, .val (.long q2), .second, .val (.long q3), .second, .val (.ref b101), .val (.long v1), .second, .val (.long v2), .second, .unset, .unset] [(.long q1), (.long q1)])) _
        refine XS.lcmp X114.here hx rfl (hb hby at_49) rfl ?_
        show Steps p.tables e below (T114.setTop (mkF m 50 #[.val (.long q0), .second, .val (.long q1), .second, .val (.long q2), .second, .val (.long q3), .second, .val (.ref b101), .val (.long v1), .second, .val (.long v2), .second, .unset, .unset] [(.int (lcmpW q1 q1))])) _
        refine st125 _ ?_
        exact kt
      refine own_arm hgo126 ?_
      exact own_armEnd X125 N125 e125 (by rw [hv10.trans (if_pos hc40_3)])
    · have hgo127 : ∀ t, Steps p.tables e below (T113.setTop (mkF m 80 #[.val (.long q0), .second, .val (.long q1), .second, .val (.long q2), .second, .val (.long q3), .second, .val (.ref b101), .val (.long v1), .second, .val (.long v2), .second, .unset, .unset] [(.int (0 : Int32))])) t → Steps p.tables e below (T113.setTop (mkF m 40 #[.val (.long q0), .second, .val (.long q1), .second, .val (.long q2), .second, .val (.long q3), .second, .val (.ref b101), .val (.long v1), .second, .val (.long v2), .second, .unset, .unset] [(.int (lcmpW q0 q0))])) t := by
        intro t kt
        show Steps p.tables e below (T113.setTop (mkF m 40 #[.val (.long q0), .second, .val (.long q1), .second, .val (.long q2), .second, .val (.long q3), .second, .val (.ref b101), .val (.long v1), .second, .val (.long v2), .second, .unset, .unset] [(.int (lcmpW q0 q0))])) _
        refine XS.ifYes X113.here hx rfl (pc0 := 40) (pc' := 79) rfl (hb hby at_40) rfl ((if0 _ _).trans (feq (own_lc_neq hc40_3)).2) (by decide) (by decide) ?_
        show Steps p.tables e below (T113.setTop (mkF m 79 #[.val (.long q0), .second, .val (.long q1), .second, .val (.long q2), .second, .val (.long q3), .second, .val (.ref b101), .val (.long v1), .second, .val (.long v2), .second, .unset, .unset] [])) _
        refine XS.iconst X113.here hx rfl (hb hby at_79) ?_
        exact kt
      refine own_arm hgo127 ?_
      exact own_armEnd X113 N113 e113 (by rw [hv10.trans (if_neg hc40_3)]))
  obtain ⟨cq129, kq129, q129a, q129b, q129c⟩ := isOf hZ e128 F108_0
  obtain ⟨_, _, ⟨T129, L129, k129, n129⟩, -, X129, ⟨Lc129, hQ129, l129, y129, z129⟩, st129⟩ := X128.virtualBack hx (y := (⟨"com/example/canonic/canonic/CheckStats", "unknown", "()J"⟩ : MethodName)) (z := (⟨"com/example/canonic/canonic/CheckStats", "unknown", "()J"⟩ : MethodName)) hown (mvT hZ (hw _ (List.mem_of_getElem? (i := 37) rfl))) (mvT hZ (hw _ (List.mem_of_getElem? (i := 38) rfl))) (notFace_of_selects (args := #[]) (mvT hZ (hw _ (List.mem_of_getElem? (i := 40) rfl)))) (mvT hZ (hw _ (List.mem_of_getElem? (i := 40) rfl))) (mvT hZ (hw _ (List.mem_of_getElem? (i := 39) rfl))) (by decide) (backOf (W := 2) (rm7 l Z a0 hw [] b101 q3 (T108.heap) n0 Z110 F108_4) hZ (hw _ (List.mem_of_getElem? (i := 41) rfl)) (hw _ (List.mem_of_getElem? (i := 2) rfl)) (by decide) (by decide)) q129a q129c (g := (mkF m 86 #[.val (.long q0), .second, .val (.long q1), .second, .val (.long q2), .second, .val (.long q3), .second, .val (.ref b101), .val (.long v1), .second, .val (.long v2), .second, .val (.int v10), .unset] [(.ref b101), (.long v1)])) rfl (by rw [hml]; rfl) (Steps.refl _) (argsL := []) (rest := [(.long v1)]) (lenOf pd2 rfl) rfl (by show 2 * 0 + _ ≤ _; exact Nat.le_of_eq rfl) (hb hby at_86) (fun _ _ => ⟨rfl, e128, (by decide : 1 + 0 ≤ _), (by decide : 4 + 0 ≤ _)⟩)
  dsimp only [Pt.U, Pt.locs, Pt.cells, Pt.slots] at X129 l129 y129 z129 st129 hQ129
  subst l129 y129 z129
  obtain ⟨rfl, N129q, e129⟩ := hQ129
  have N129 := Fr.app N128 N129q
  obtain ⟨cq130, kq130, q130a, q130b, q130c⟩ := isOf hZ e129 F108_0
  obtain ⟨_, _, ⟨T130, L130, k130, n130⟩, -, X130, ⟨Lc130, hQ130, l130, y130, z130⟩, st130⟩ := X129.virtualBack hx (y := (⟨"com/example/canonic/canonic/CheckStats", "settledByRequest", "()J"⟩ : MethodName)) (z := (⟨"com/example/canonic/canonic/CheckStats", "settledByRequest", "()J"⟩ : MethodName)) hown (mvT hZ (hw _ (List.mem_of_getElem? (i := 32) rfl))) (mvT hZ (hw _ (List.mem_of_getElem? (i := 33) rfl))) (notFace_of_selects (args := #[]) (mvT hZ (hw _ (List.mem_of_getElem? (i := 35) rfl)))) (mvT hZ (hw _ (List.mem_of_getElem? (i := 35) rfl))) (mvT hZ (hw _ (List.mem_of_getElem? (i := 34) rfl))) (by decide) (backOf (W := 4) (rm6 l Z a0 hw [] b101 q2 (T108.heap) n0 Z110 F108_3) hZ (hw _ (List.mem_of_getElem? (i := 36) rfl)) (hw _ (List.mem_of_getElem? (i := 2) rfl)) (by decide) (by decide)) q130a q130c (g := (mkF m 91 #[.val (.long q0), .second, .val (.long q1), .second, .val (.long q2), .second, .val (.long q3), .second, .val (.ref b101), .val (.long v1), .second, .val (.long v2), .second, .val (.int v10), .unset] [(.ref b101), (.long q3), (.long v1)])) rfl (by rw [hml]; rfl) (Steps.refl _) (argsL := []) (rest := [(.long q3), (.long v1)]) (lenOf pd2 rfl) rfl (by show 2 * 0 + _ ≤ _; exact Nat.le_of_eq rfl) (hb hby at_91) (fun _ _ => ⟨rfl, e129, (by decide : 1 + 0 ≤ _), (by decide : 4 + 0 ≤ _)⟩)
  dsimp only [Pt.U, Pt.locs, Pt.cells, Pt.slots] at X130 l130 y130 z130 st130 hQ130
  subst l130 y130 z130
  obtain ⟨rfl, N130q, e130⟩ := hQ130
  have N130 := Fr.app N129 N130q
  obtain ⟨cq131, kq131, q131a, q131b, q131c⟩ := isOf hZ e130 F108_0
  obtain ⟨_, _, ⟨T131, L131, k131, n131⟩, -, X131, ⟨Lc131, hQ131, l131, y131, z131⟩, st131⟩ := X130.virtualBack hx (y := (⟨"com/example/canonic/canonic/CheckStats", "settledByKeptAnswer", "()J"⟩ : MethodName)) (z := (⟨"com/example/canonic/canonic/CheckStats", "settledByKeptAnswer", "()J"⟩ : MethodName)) hown (mvT hZ (hw _ (List.mem_of_getElem? (i := 27) rfl))) (mvT hZ (hw _ (List.mem_of_getElem? (i := 28) rfl))) (notFace_of_selects (args := #[]) (mvT hZ (hw _ (List.mem_of_getElem? (i := 30) rfl)))) (mvT hZ (hw _ (List.mem_of_getElem? (i := 30) rfl))) (mvT hZ (hw _ (List.mem_of_getElem? (i := 29) rfl))) (by decide) (backOf (W := 4) (rm5 l Z a0 hw [] b101 q1 (T108.heap) n0 Z110 F108_2) hZ (hw _ (List.mem_of_getElem? (i := 31) rfl)) (hw _ (List.mem_of_getElem? (i := 2) rfl)) (by decide) (by decide)) q131a q131c (g := (mkF m 97 #[.val (.long q0), .second, .val (.long q1), .second, .val (.long q2), .second, .val (.long q3), .second, .val (.ref b101), .val (.long v1), .second, .val (.long v2), .second, .val (.int v10), .unset] [(.ref b101), (.long (q3 + q2)), (.long v1)])) rfl (by rw [hml]; rfl) (Steps.refl _) (argsL := []) (rest := [(.long (q3 + q2)), (.long v1)]) (lenOf pd2 rfl) rfl (by show 2 * 0 + _ ≤ _; exact Nat.le_of_eq rfl) (hb hby at_97) (fun _ _ => ⟨rfl, e130, (by decide : 1 + 0 ≤ _), (by decide : 4 + 0 ≤ _)⟩)
  dsimp only [Pt.U, Pt.locs, Pt.cells, Pt.slots] at X131 l131 y131 z131 st131 hQ131
  subst l131 y131 z131
  obtain ⟨rfl, N131q, e131⟩ := hQ131
  have N131 := Fr.app N130 N131q
  obtain ⟨cq132, kq132, q132a, q132b, q132c⟩ := isOf hZ e131 F108_0
  obtain ⟨_, _, ⟨T132, L132, k132, n132⟩, -, X132, ⟨Lc132, hQ132, l132, y132, z132⟩, st132⟩ := X131.virtualBack hx (y := (⟨"com/example/canonic/canonic/CheckStats", "settledLocally", "()J"⟩ : MethodName)) (z := (⟨"com/example/canonic/canonic/CheckStats", "settledLocally", "()J"⟩ : MethodName)) hown (mvT hZ (hw _ (List.mem_of_getElem? (i := 22) rfl))) (mvT hZ (hw _ (List.mem_of_getElem? (i := 23) rfl))) (notFace_of_selects (args := #[]) (mvT hZ (hw _ (List.mem_of_getElem? (i := 25) rfl)))) (mvT hZ (hw _ (List.mem_of_getElem? (i := 25) rfl))) (mvT hZ (hw _ (List.mem_of_getElem? (i := 24) rfl))) (by decide) (backOf (W := 6) (rm4 l Z a0 hw [] b101 q0 (T108.heap) n0 Z110 F108_1) hZ (hw _ (List.mem_of_getElem? (i := 26) rfl)) (hw _ (List.mem_of_getElem? (i := 2) rfl)) (by decide) (by decide)) q132a q132c (g := (mkF m 102 #[.val (.long q0), .second, .val (.long q1), .second, .val (.long q2), .second, .val (.long q3), .second, .val (.ref b101), .val (.long v1), .second, .val (.long v2), .second, .val (.int v10), .unset] [(.ref b101), (.long q1), (.long (q3 + q2)), (.long v1)])) rfl (by rw [hml]; rfl) (Steps.refl _) (argsL := []) (rest := [(.long q1), (.long (q3 + q2)), (.long v1)]) (lenOf pd2 rfl) rfl (by show 2 * 0 + _ ≤ _; exact Nat.le_of_eq rfl) (hb hby at_102) (fun _ _ => ⟨rfl, e131, (by decide : 1 + 0 ≤ _), (by decide : 4 + 0 ≤ _)⟩)
  dsimp only [Pt.U, Pt.locs, Pt.cells, Pt.slots] at X132 l132 y132 z132 st132 hQ132
  subst l132 y132 z132
  obtain ⟨rfl, N132q, e132⟩ := hQ132
  have N132 := Fr.app N131 N132q
  obtain ⟨v12, hv12⟩ : ∃ z : Int32, z = (if v1 = ((q3 + q2) + (q1 + q0)) then (1 : Int32) else (0 : Int32)) := ⟨_, rfl⟩
  obtain ⟨T135, lc135, X135, N135, e135, st135⟩ := own_mrg (n0 := n0) (h := T108.heap) (g := (mkF m 108 #[.val (.long q0), .second, .val (.long q1), .second, .val (.long q2), .second, .val (.long q3), .second, .val (.ref b101), .val (.long v1), .second, .val (.long v2), .second, .val (.int v10), .unset] [(.int (lcmpW v1 ((q3 + q2) + (q1 + q0))))])) (g' := (mkF m 116 #[.val (.long q0), .second, .val (.long q1), .second, .val (.long q2), .second, .val (.long q3), .second, .val (.ref b101), .val (.long v1), .second, .val (.long v2), .second, .val (.int v10), .unset] [(.int v12)])) X132 (by
    by_cases hc108_11 : v1 = ((q3 + q2) + (q1 + q0))
    · have hgo133 : ∀ t, Steps p.tables e below (T132.setTop (mkF m 116 #[.val (.long q0), .second, .val (.long q1), .second, .val (.long q2), .second, .val (.long q3), .second, .val (.ref b101), .val (.long v1), .second, .val (.long v2), .second, .val (.int v10), .unset] [(.int (1 : Int32))])) t → Steps p.tables e below (T132.setTop (mkF m 108 #[.val (.long q0), .second, .val (.long q1), .second, .val (.long q2), .second, .val (.long q3), .second, .val (.ref b101), .val (.long v1), .second, .val (.long v2), .second, .val (.int v10), .unset] [(.int (lcmpW v1 ((q3 + q2) + (q1 + q0))))])) t := by
        intro t kt
        show Steps p.tables e below (T132.setTop (mkF m 108 #[.val (.long q0), .second, .val (.long q1), .second, .val (.long q2), .second, .val (.long q3), .second, .val (.ref b101), .val (.long v1), .second, .val (.long v2), .second, .val (.int v10), .unset] [(.int (lcmpW v1 ((q3 + q2) + (q1 + q0))))])) _
        refine XS.ifNo X132.here hx rfl (hb hby at_108) rfl ((if0 _ _).trans (teq (own_lc_eq hc108_11)).2) ?_
        show Steps p.tables e below (T132.setTop (mkF m 111 #[.val (.long q0), .second, .val (.long q1), .second, .val (.long q2), .second, .val (.long q3), .second, .val (.ref b101), .val (.long v1), .second, .val (.long v2), .second, .val (.int v10), .unset] [])) _
        refine XS.iconst X132.here hx rfl (hb hby at_111) ?_
        show Steps p.tables e below (T132.setTop (mkF m 112 #[.val (.long q0), .second, .val (.long q1), .second, .val (.long q2), .second, .val (.long q3), .second, .val (.ref b101), .val (.long v1), .second, .val (.long v2), .second, .val (.int v10), .unset] [(.int (1 : Int32))])) _
        refine XS.goto X132.here hx rfl (pc0 := 112) (pc' := 116) rfl (hb hby at_112) (by decide) (by decide) ?_
        exact kt
      refine own_arm hgo133 ?_
      exact own_armEnd X132 N132 e132 (by rw [hv12.trans (if_pos hc108_11)])
    · have hgo134 : ∀ t, Steps p.tables e below (T132.setTop (mkF m 116 #[.val (.long q0), .second, .val (.long q1), .second, .val (.long q2), .second, .val (.long q3), .second, .val (.ref b101), .val (.long v1), .second, .val (.long v2), .second, .val (.int v10), .unset] [(.int (0 : Int32))])) t → Steps p.tables e below (T132.setTop (mkF m 108 #[.val (.long q0), .second, .val (.long q1), .second, .val (.long q2), .second, .val (.long q3), .second, .val (.ref b101), .val (.long v1), .second, .val (.long v2), .second, .val (.int v10), .unset] [(.int (lcmpW v1 ((q3 + q2) + (q1 + q0))))])) t := by
        intro t kt
        show Steps p.tables e below (T132.setTop (mkF m 108 #[.val (.long q0), .second, .val (.long q1), .second, .val (.long q2), .second, .val (.long q3), .second, .val (.ref b101), .val (.long v1), .second, .val (.long v2), .second, .val (.int v10), .unset] [(.int (lcmpW v1 ((q3 + q2) + (q1 + q0))))])) _
        refine XS.ifYes X132.here hx rfl (pc0 := 108) (pc' := 115) rfl (hb hby at_108) rfl ((if0 _ _).trans (feq (own_lc_neq hc108_11)).2) (by decide) (by decide) ?_
        show Steps p.tables e below (T132.setTop (mkF m 115 #[.val (.long q0), .second, .val (.long q1), .second, .val (.long q2), .second, .val (.long q3), .second, .val (.ref b101), .val (.long v1), .second, .val (.long v2), .second, .val (.int v10), .unset] [])) _
        refine XS.iconst X132.here hx rfl (hb hby at_115) ?_
        exact kt
      refine own_arm hgo134 ?_
      exact own_armEnd X132 N132 e132 (by rw [hv12.trans (if_neg hc108_11)]))
  obtain ⟨v16, hv16⟩ : ∃ z : Int32, z = (if v12 = (0 : Int32) then (0 : Int32) else (1 : Int32)) := ⟨_, rfl⟩
  obtain ⟨v17, hv17⟩ : ∃ z : Int32, z = (if v10 = (0 : Int32) then (0 : Int32) else v16) := ⟨_, rfl⟩
  obtain ⟨v18, hv18⟩ : ∃ z : Int32, z = (if v1 = v2 then v17 else (0 : Int32)) := ⟨_, rfl⟩
  obtain ⟨T144, lc144, X144, N144, e144, st144⟩ := own_mrg (n0 := n0) (h := T108.heap) (g := (mkF m 123 #[.val (.long q0), .second, .val (.long q1), .second, .val (.long q2), .second, .val (.long q3), .second, .val (.ref b101), .val (.long v1), .second, .val (.long v2), .second, .val (.int v10), .val (.int v12)] [(.int (lcmpW v1 v2))])) (g' := (mkF m 141 #[.val (.long q0), .second, .val (.long q1), .second, .val (.long q2), .second, .val (.long q3), .second, .val (.ref b101), .val (.long v1), .second, .val (.long v2), .second, .val (.int v10), .val (.int v12)] [(.int v18)])) X135 (by
    by_cases hc123_13 : v1 = v2
    · obtain ⟨T141, lc141, X141, N141, e141, st141⟩ := own_mrg (n0 := n0) (h := T108.heap) (g := (mkF m 128 #[.val (.long q0), .second, .val (.long q1), .second, .val (.long q2), .second, .val (.long q3), .second, .val (.ref b101), .val (.long v1), .second, .val (.long v2), .second, .val (.int v10), .val (.int v12)] [(.int v10)])) (g' := (mkF m 141 #[.val (.long q0), .second, .val (.long q1), .second, .val (.long q2), .second, .val (.long q3), .second, .val (.ref b101), .val (.long v1), .second, .val (.long v2), .second, .val (.int v10), .val (.int v12)] [(.int v17)])) X135 (by
        by_cases hc128_14 : v10 = (0 : Int32)
        · have hgo136 : ∀ t, Steps p.tables e below (T135.setTop (mkF m 141 #[.val (.long q0), .second, .val (.long q1), .second, .val (.long q2), .second, .val (.long q3), .second, .val (.ref b101), .val (.long v1), .second, .val (.long v2), .second, .val (.int v10), .val (.int v12)] [(.int (0 : Int32))])) t → Steps p.tables e below (T135.setTop (mkF m 128 #[.val (.long q0), .second, .val (.long q1), .second, .val (.long q2), .second, .val (.long q3), .second, .val (.ref b101), .val (.long v1), .second, .val (.long v2), .second, .val (.int v10), .val (.int v12)] [(.int v10)])) t := by
            intro t kt
            show Steps p.tables e below (T135.setTop (mkF m 128 #[.val (.long q0), .second, .val (.long q1), .second, .val (.long q2), .second, .val (.long q3), .second, .val (.ref b101), .val (.long v1), .second, .val (.long v2), .second, .val (.int v10), .val (.int v12)] [(.int v10)])) _
            refine XS.ifYes X135.here hx rfl (pc0 := 128) (pc' := 140) rfl (hb hby at_128) rfl ((if0 _ _).trans (teq hc128_14).1) (by decide) (by decide) ?_
            show Steps p.tables e below (T135.setTop (mkF m 140 #[.val (.long q0), .second, .val (.long q1), .second, .val (.long q2), .second, .val (.long q3), .second, .val (.ref b101), .val (.long v1), .second, .val (.long v2), .second, .val (.int v10), .val (.int v12)] [])) _
            refine XS.iconst X135.here hx rfl (hb hby at_140) ?_
            exact kt
          refine own_arm hgo136 ?_
          exact own_armEnd X135 N135 e135 (by rw [hv17.trans (if_pos hc128_14)])
        · obtain ⟨T139, lc139, X139, N139, e139, st139⟩ := own_mrg (n0 := n0) (h := T108.heap) (g := (mkF m 133 #[.val (.long q0), .second, .val (.long q1), .second, .val (.long q2), .second, .val (.long q3), .second, .val (.ref b101), .val (.long v1), .second, .val (.long v2), .second, .val (.int v10), .val (.int v12)] [(.int v12)])) (g' := (mkF m 141 #[.val (.long q0), .second, .val (.long q1), .second, .val (.long q2), .second, .val (.long q3), .second, .val (.ref b101), .val (.long v1), .second, .val (.long v2), .second, .val (.int v10), .val (.int v12)] [(.int v16)])) X135 (by
            by_cases hc133_15 : v12 = (0 : Int32)
            · have hgo137 : ∀ t, Steps p.tables e below (T135.setTop (mkF m 141 #[.val (.long q0), .second, .val (.long q1), .second, .val (.long q2), .second, .val (.long q3), .second, .val (.ref b101), .val (.long v1), .second, .val (.long v2), .second, .val (.int v10), .val (.int v12)] [(.int (0 : Int32))])) t → Steps p.tables e below (T135.setTop (mkF m 133 #[.val (.long q0), .second, .val (.long q1), .second, .val (.long q2), .second, .val (.long q3), .second, .val (.ref b101), .val (.long v1), .second, .val (.long v2), .second, .val (.int v10), .val (.int v12)] [(.int v12)])) t := by
                intro t kt
                show Steps p.tables e below (T135.setTop (mkF m 133 #[.val (.long q0), .second, .val (.long q1), .second, .val (.long q2), .second, .val (.long q3), .second, .val (.ref b101), .val (.long v1), .second, .val (.long v2), .second, .val (.int v10), .val (.int v12)] [(.int v12)])) _
                refine XS.ifYes X135.here hx rfl (pc0 := 133) (pc' := 140) rfl (hb hby at_133) rfl ((if0 _ _).trans (teq hc133_15).1) (by decide) (by decide) ?_
                show Steps p.tables e below (T135.setTop (mkF m 140 #[.val (.long q0), .second, .val (.long q1), .second, .val (.long q2), .second, .val (.long q3), .second, .val (.ref b101), .val (.long v1), .second, .val (.long v2), .second, .val (.int v10), .val (.int v12)] [])) _
                refine XS.iconst X135.here hx rfl (hb hby at_140) ?_
                exact kt
              refine own_arm hgo137 ?_
              exact own_armEnd X135 N135 e135 (by rw [hv16.trans (if_pos hc133_15)])
            · have hgo138 : ∀ t, Steps p.tables e below (T135.setTop (mkF m 141 #[.val (.long q0), .second, .val (.long q1), .second, .val (.long q2), .second, .val (.long q3), .second, .val (.ref b101), .val (.long v1), .second, .val (.long v2), .second, .val (.int v10), .val (.int v12)] [(.int (1 : Int32))])) t → Steps p.tables e below (T135.setTop (mkF m 133 #[.val (.long q0), .second, .val (.long q1), .second, .val (.long q2), .second, .val (.long q3), .second, .val (.ref b101), .val (.long v1), .second, .val (.long v2), .second, .val (.int v10), .val (.int v12)] [(.int v12)])) t := by
                intro t kt
                show Steps p.tables e below (T135.setTop (mkF m 133 #[.val (.long q0), .second, .val (.long q1), .second, .val (.long q2), .second, .val (.long q3), .second, .val (.ref b101), .val (.long v1), .second, .val (.long v2), .second, .val (.int v10), .val (.int v12)] [(.int v12)])) _
                refine XS.ifNo X135.here hx rfl (hb hby at_133) rfl ((if0 _ _).trans (feq hc133_15).1) ?_
                show Steps p.tables e below (T135.setTop (mkF m 136 #[.val (.long q0), .second, .val (.long q1), .second, .val (.long q2), .second, .val (.long q3), .second, .val (.ref b101), .val (.long v1), .second, .val (.long v2), .second, .val (.int v10), .val (.int v12)] [])) _
                refine XS.iconst X135.here hx rfl (hb hby at_136) ?_
                show Steps p.tables e below (T135.setTop (mkF m 137 #[.val (.long q0), .second, .val (.long q1), .second, .val (.long q2), .second, .val (.long q3), .second, .val (.ref b101), .val (.long v1), .second, .val (.long v2), .second, .val (.int v10), .val (.int v12)] [(.int (1 : Int32))])) _
                refine XS.goto X135.here hx rfl (pc0 := 137) (pc' := 141) rfl (hb hby at_137) (by decide) (by decide) ?_
                exact kt
              refine own_arm hgo138 ?_
              exact own_armEnd X135 N135 e135 (by rw [hv16.trans (if_neg hc133_15)]))
          have hgo140 : ∀ t, Steps p.tables e below (T139.setTop (mkF m 141 #[.val (.long q0), .second, .val (.long q1), .second, .val (.long q2), .second, .val (.long q3), .second, .val (.ref b101), .val (.long v1), .second, .val (.long v2), .second, .val (.int v10), .val (.int v12)] [(.int v16)])) t → Steps p.tables e below (T135.setTop (mkF m 128 #[.val (.long q0), .second, .val (.long q1), .second, .val (.long q2), .second, .val (.long q3), .second, .val (.ref b101), .val (.long v1), .second, .val (.long v2), .second, .val (.int v10), .val (.int v12)] [(.int v10)])) t := by
            intro t kt
            show Steps p.tables e below (T135.setTop (mkF m 128 #[.val (.long q0), .second, .val (.long q1), .second, .val (.long q2), .second, .val (.long q3), .second, .val (.ref b101), .val (.long v1), .second, .val (.long v2), .second, .val (.int v10), .val (.int v12)] [(.int v10)])) _
            refine XS.ifNo X135.here hx rfl (hb hby at_128) rfl ((if0 _ _).trans (feq hc128_14).1) ?_
            show Steps p.tables e below (T135.setTop (mkF m 131 #[.val (.long q0), .second, .val (.long q1), .second, .val (.long q2), .second, .val (.long q3), .second, .val (.ref b101), .val (.long v1), .second, .val (.long v2), .second, .val (.int v10), .val (.int v12)] [])) _
            refine XS.iload X135.here hx rfl (hb hby at_131) rfl ?_
            show Steps p.tables e below (T135.setTop (mkF m 133 #[.val (.long q0), .second, .val (.long q1), .second, .val (.long q2), .second, .val (.long q3), .second, .val (.ref b101), .val (.long v1), .second, .val (.long v2), .second, .val (.int v10), .val (.int v12)] [(.int v12)])) _
            refine st139 _ ?_
            exact kt
          refine own_arm hgo140 ?_
          exact own_armEnd X139 N139 e139 (by rw [hv17.trans (if_neg hc128_14)]))
      have hgo142 : ∀ t, Steps p.tables e below (T141.setTop (mkF m 141 #[.val (.long q0), .second, .val (.long q1), .second, .val (.long q2), .second, .val (.long q3), .second, .val (.ref b101), .val (.long v1), .second, .val (.long v2), .second, .val (.int v10), .val (.int v12)] [(.int v17)])) t → Steps p.tables e below (T135.setTop (mkF m 123 #[.val (.long q0), .second, .val (.long q1), .second, .val (.long q2), .second, .val (.long q3), .second, .val (.ref b101), .val (.long v1), .second, .val (.long v2), .second, .val (.int v10), .val (.int v12)] [(.int (lcmpW v1 v2))])) t := by
        intro t kt
        show Steps p.tables e below (T135.setTop (mkF m 123 #[.val (.long q0), .second, .val (.long q1), .second, .val (.long q2), .second, .val (.long q3), .second, .val (.ref b101), .val (.long v1), .second, .val (.long v2), .second, .val (.int v10), .val (.int v12)] [(.int (lcmpW v1 v2))])) _
        refine XS.ifNo X135.here hx rfl (hb hby at_123) rfl ((if0 _ _).trans (teq (own_lc_eq hc123_13)).2) ?_
        show Steps p.tables e below (T135.setTop (mkF m 126 #[.val (.long q0), .second, .val (.long q1), .second, .val (.long q2), .second, .val (.long q3), .second, .val (.ref b101), .val (.long v1), .second, .val (.long v2), .second, .val (.int v10), .val (.int v12)] [])) _
        refine XS.iload X135.here hx rfl (hb hby at_126) rfl ?_
        show Steps p.tables e below (T135.setTop (mkF m 128 #[.val (.long q0), .second, .val (.long q1), .second, .val (.long q2), .second, .val (.long q3), .second, .val (.ref b101), .val (.long v1), .second, .val (.long v2), .second, .val (.int v10), .val (.int v12)] [(.int v10)])) _
        refine st141 _ ?_
        exact kt
      refine own_arm hgo142 ?_
      exact own_armEnd X141 N141 e141 (by rw [hv18.trans (if_pos hc123_13)])
    · have hgo143 : ∀ t, Steps p.tables e below (T135.setTop (mkF m 141 #[.val (.long q0), .second, .val (.long q1), .second, .val (.long q2), .second, .val (.long q3), .second, .val (.ref b101), .val (.long v1), .second, .val (.long v2), .second, .val (.int v10), .val (.int v12)] [(.int (0 : Int32))])) t → Steps p.tables e below (T135.setTop (mkF m 123 #[.val (.long q0), .second, .val (.long q1), .second, .val (.long q2), .second, .val (.long q3), .second, .val (.ref b101), .val (.long v1), .second, .val (.long v2), .second, .val (.int v10), .val (.int v12)] [(.int (lcmpW v1 v2))])) t := by
        intro t kt
        show Steps p.tables e below (T135.setTop (mkF m 123 #[.val (.long q0), .second, .val (.long q1), .second, .val (.long q2), .second, .val (.long q3), .second, .val (.ref b101), .val (.long v1), .second, .val (.long v2), .second, .val (.int v10), .val (.int v12)] [(.int (lcmpW v1 v2))])) _
        refine XS.ifYes X135.here hx rfl (pc0 := 123) (pc' := 140) rfl (hb hby at_123) rfl ((if0 _ _).trans (feq (own_lc_neq hc123_13)).2) (by decide) (by decide) ?_
        show Steps p.tables e below (T135.setTop (mkF m 140 #[.val (.long q0), .second, .val (.long q1), .second, .val (.long q2), .second, .val (.long q3), .second, .val (.ref b101), .val (.long v1), .second, .val (.long v2), .second, .val (.int v10), .val (.int v12)] [])) _
        refine XS.iconst X135.here hx rfl (hb hby at_140) ?_
        exact kt
      refine own_arm hgo143 ?_
      exact own_armEnd X135 N135 e135 (by rw [hv18.trans (if_neg hc123_13)]))
  have hgo145 : ∀ t, Steps p.tables e below (T144.setTop (mkF m 141 #[.val (.long q0), .second, .val (.long q1), .second, .val (.long q2), .second, .val (.long q3), .second, .val (.ref b101), .val (.long v1), .second, .val (.long v2), .second, .val (.int v10), .val (.int v12)] [(.int v18)])) t → Steps p.tables e below (s₁.setTop (mkF m 0 #[.val (.long q0), .second, .val (.long q1), .second, .val (.long q2), .second, .val (.long q3), .second, .unset, .unset, .unset, .unset, .unset, .unset, .unset] [])) t := by
    intro t kt
    show Steps p.tables e below (s₁.setTop (mkF m 0 #[.val (.long q0), .second, .val (.long q1), .second, .val (.long q2), .second, .val (.long q3), .second, .unset, .unset, .unset, .unset, .unset, .unset, .unset] [])) _
    refine st101 _ ?_
    show Steps p.tables e below (T101.setTop (mkF m 3 #[.val (.long q0), .second, .val (.long q1), .second, .val (.long q2), .second, .val (.long q3), .second, .unset, .unset, .unset, .unset, .unset, .unset, .unset] [(.ref b101)])) _
    refine XS.dup X101.here hx rfl (hb hby at_3) rfl rfl ?_
    show Steps p.tables e below (T101.setTop (mkF m 4 #[.val (.long q0), .second, .val (.long q1), .second, .val (.long q2), .second, .val (.long q3), .second, .unset, .unset, .unset, .unset, .unset, .unset, .unset] [(.ref b101), (.ref b101)])) _
    refine XS.lloadN X101.here hx rfl (hb hby at_4) rfl ?_
    show Steps p.tables e below (T101.setTop (mkF m 5 #[.val (.long q0), .second, .val (.long q1), .second, .val (.long q2), .second, .val (.long q3), .second, .unset, .unset, .unset, .unset, .unset, .unset, .unset] [(.long q0), (.ref b101), (.ref b101)])) _
    refine XS.lloadN X101.here hx rfl (hb hby at_5) rfl ?_
    show Steps p.tables e below (T101.setTop (mkF m 6 #[.val (.long q0), .second, .val (.long q1), .second, .val (.long q2), .second, .val (.long q3), .second, .unset, .unset, .unset, .unset, .unset, .unset, .unset] [(.long q1), (.long q0), (.ref b101), (.ref b101)])) _
    refine XS.lload X101.here hx rfl (hb hby at_6) rfl ?_
    show Steps p.tables e below (T101.setTop (mkF m 8 #[.val (.long q0), .second, .val (.long q1), .second, .val (.long q2), .second, .val (.long q3), .second, .unset, .unset, .unset, .unset, .unset, .unset, .unset] [(.long q2), (.long q1), (.long q0), (.ref b101), (.ref b101)])) _
    refine XS.lload X101.here hx rfl (hb hby at_8) rfl ?_
    show Steps p.tables e below (T101.setTop (mkF m 10 #[.val (.long q0), .second, .val (.long q1), .second, .val (.long q2), .second, .val (.long q3), .second, .unset, .unset, .unset, .unset, .unset, .unset, .unset] [(.long q3), (.long q2), (.long q1), (.long q0), (.ref b101), (.ref b101)])) _
    refine st108.trans ?_
    show Steps p.tables e below (T108.setTop (mkF m 13 #[.val (.long q0), .second, .val (.long q1), .second, .val (.long q2), .second, .val (.long q3), .second, .unset, .unset, .unset, .unset, .unset, .unset, .unset] [(.ref b101)])) _
    refine XS.astore X108.here hx rfl (hb hby at_13) rfl rfl (l' := #[.val (.long q0), .second, .val (.long q1), .second, .val (.long q2), .second, .val (.long q3), .second, .val (.ref b101), .unset, .unset, .unset, .unset, .unset, .unset]) rfl ?_
    show Steps p.tables e below (T108.setTop (mkF m 15 #[.val (.long q0), .second, .val (.long q1), .second, .val (.long q2), .second, .val (.long q3), .second, .val (.ref b101), .unset, .unset, .unset, .unset, .unset, .unset] [])) _
    refine XS.aload X108.here hx rfl (hb hby at_15) rfl rfl ?_
    show Steps p.tables e below (T108.setTop (mkF m 17 #[.val (.long q0), .second, .val (.long q1), .second, .val (.long q2), .second, .val (.long q3), .second, .val (.ref b101), .unset, .unset, .unset, .unset, .unset, .unset] [(.ref b101)])) _
    refine st112.trans ?_
    show Steps p.tables e below (T112.setTop (mkF m 20 #[.val (.long q0), .second, .val (.long q1), .second, .val (.long q2), .second, .val (.long q3), .second, .val (.ref b101), .unset, .unset, .unset, .unset, .unset, .unset] [(.long (((q0 + q1) + q2) + q3))])) _
    rw [← hv1]
    show Steps p.tables e below (T112.setTop (mkF m 20 #[.val (.long q0), .second, .val (.long q1), .second, .val (.long q2), .second, .val (.long q3), .second, .val (.ref b101), .unset, .unset, .unset, .unset, .unset, .unset] [(.long v1)])) _
    refine XS.lstore X112.here hx rfl (hb hby at_20) rfl (l' := #[.val (.long q0), .second, .val (.long q1), .second, .val (.long q2), .second, .val (.long q3), .second, .val (.ref b101), .val (.long v1), .second, .unset, .unset, .unset, .unset]) rfl ?_
    show Steps p.tables e below (T112.setTop (mkF m 22 #[.val (.long q0), .second, .val (.long q1), .second, .val (.long q2), .second, .val (.long q3), .second, .val (.ref b101), .val (.long v1), .second, .unset, .unset, .unset, .unset] [])) _
    refine XS.lload X112.here hx rfl (hb hby at_22) rfl ?_
    show Steps p.tables e below (T112.setTop (mkF m 24 #[.val (.long q0), .second, .val (.long q1), .second, .val (.long q2), .second, .val (.long q3), .second, .val (.ref b101), .val (.long v1), .second, .unset, .unset, .unset, .unset] [(.long q3)])) _
    refine XS.lload X112.here hx rfl (hb hby at_24) rfl ?_
    show Steps p.tables e below (T112.setTop (mkF m 26 #[.val (.long q0), .second, .val (.long q1), .second, .val (.long q2), .second, .val (.long q3), .second, .val (.ref b101), .val (.long v1), .second, .unset, .unset, .unset, .unset] [(.long q2), (.long q3)])) _
    refine XS.ladd X112.here hx rfl (hb hby at_26) rfl ?_
    show Steps p.tables e below (T112.setTop (mkF m 27 #[.val (.long q0), .second, .val (.long q1), .second, .val (.long q2), .second, .val (.long q3), .second, .val (.ref b101), .val (.long v1), .second, .unset, .unset, .unset, .unset] [(.long (q3 + q2))])) _
    refine XS.lloadN X112.here hx rfl (hb hby at_27) rfl ?_
    show Steps p.tables e below (T112.setTop (mkF m 28 #[.val (.long q0), .second, .val (.long q1), .second, .val (.long q2), .second, .val (.long q3), .second, .val (.ref b101), .val (.long v1), .second, .unset, .unset, .unset, .unset] [(.long q1), (.long (q3 + q2))])) _
    refine XS.lloadN X112.here hx rfl (hb hby at_28) rfl ?_
    show Steps p.tables e below (T112.setTop (mkF m 29 #[.val (.long q0), .second, .val (.long q1), .second, .val (.long q2), .second, .val (.long q3), .second, .val (.ref b101), .val (.long v1), .second, .unset, .unset, .unset, .unset] [(.long q0), (.long q1), (.long (q3 + q2))])) _
    refine XS.ladd X112.here hx rfl (hb hby at_29) rfl ?_
    show Steps p.tables e below (T112.setTop (mkF m 30 #[.val (.long q0), .second, .val (.long q1), .second, .val (.long q2), .second, .val (.long q3), .second, .val (.ref b101), .val (.long v1), .second, .unset, .unset, .unset, .unset] [(.long (q1 + q0)), (.long (q3 + q2))])) _
    refine XS.ladd X112.here hx rfl (hb hby at_30) rfl ?_
    show Steps p.tables e below (T112.setTop (mkF m 31 #[.val (.long q0), .second, .val (.long q1), .second, .val (.long q2), .second, .val (.long q3), .second, .val (.ref b101), .val (.long v1), .second, .unset, .unset, .unset, .unset] [(.long ((q3 + q2) + (q1 + q0)))])) _
    rw [← hv2]
    show Steps p.tables e below (T112.setTop (mkF m 31 #[.val (.long q0), .second, .val (.long q1), .second, .val (.long q2), .second, .val (.long q3), .second, .val (.ref b101), .val (.long v1), .second, .unset, .unset, .unset, .unset] [(.long v2)])) _
    refine XS.lstore X112.here hx rfl (hb hby at_31) rfl (l' := #[.val (.long q0), .second, .val (.long q1), .second, .val (.long q2), .second, .val (.long q3), .second, .val (.ref b101), .val (.long v1), .second, .val (.long v2), .second, .unset, .unset]) rfl ?_
    show Steps p.tables e below (T112.setTop (mkF m 33 #[.val (.long q0), .second, .val (.long q1), .second, .val (.long q2), .second, .val (.long q3), .second, .val (.ref b101), .val (.long v1), .second, .val (.long v2), .second, .unset, .unset] [])) _
    refine XS.aload X112.here hx rfl (hb hby at_33) rfl rfl ?_
    show Steps p.tables e below (T112.setTop (mkF m 35 #[.val (.long q0), .second, .val (.long q1), .second, .val (.long q2), .second, .val (.long q3), .second, .val (.ref b101), .val (.long v1), .second, .val (.long v2), .second, .unset, .unset] [(.ref b101)])) _
    refine st113.trans ?_
    show Steps p.tables e below (T113.setTop (mkF m 38 #[.val (.long q0), .second, .val (.long q1), .second, .val (.long q2), .second, .val (.long q3), .second, .val (.ref b101), .val (.long v1), .second, .val (.long v2), .second, .unset, .unset] [(.long q0)])) _
    refine XS.lloadN X113.here hx rfl (hb hby at_38) rfl ?_
    show Steps p.tables e below (T113.setTop (mkF m 39 #[.val (.long q0), .second, .val (.long q1), .second, .val (.long q2), .second, .val (.long q3), .second, .val (.ref b101), .val (.long v1), .second, .val (.long v2), .second, .unset, .unset] [(.long q0), (.long q0)])) _
    refine XS.lcmp X113.here hx rfl (hb hby at_39) rfl ?_
    show Steps p.tables e below (T113.setTop (mkF m 40 #[.val (.long q0), .second, .val (.long q1), .second, .val (.long q2), .second, .val (.long q3), .second, .val (.ref b101), .val (.long v1), .second, .val (.long v2), .second, .unset, .unset] [(.int (lcmpW q0 q0))])) _
    refine st128 _ ?_
    show Steps p.tables e below (T128.setTop (mkF m 80 #[.val (.long q0), .second, .val (.long q1), .second, .val (.long q2), .second, .val (.long q3), .second, .val (.ref b101), .val (.long v1), .second, .val (.long v2), .second, .unset, .unset] [(.int v10)])) _
    refine XS.istore X128.here hx rfl (hb hby at_80) rfl (l' := #[.val (.long q0), .second, .val (.long q1), .second, .val (.long q2), .second, .val (.long q3), .second, .val (.ref b101), .val (.long v1), .second, .val (.long v2), .second, .val (.int v10), .unset]) rfl ?_
    show Steps p.tables e below (T128.setTop (mkF m 82 #[.val (.long q0), .second, .val (.long q1), .second, .val (.long q2), .second, .val (.long q3), .second, .val (.ref b101), .val (.long v1), .second, .val (.long v2), .second, .val (.int v10), .unset] [])) _
    refine XS.lload X128.here hx rfl (hb hby at_82) rfl ?_
    show Steps p.tables e below (T128.setTop (mkF m 84 #[.val (.long q0), .second, .val (.long q1), .second, .val (.long q2), .second, .val (.long q3), .second, .val (.ref b101), .val (.long v1), .second, .val (.long v2), .second, .val (.int v10), .unset] [(.long v1)])) _
    refine XS.aload X128.here hx rfl (hb hby at_84) rfl rfl ?_
    show Steps p.tables e below (T128.setTop (mkF m 86 #[.val (.long q0), .second, .val (.long q1), .second, .val (.long q2), .second, .val (.long q3), .second, .val (.ref b101), .val (.long v1), .second, .val (.long v2), .second, .val (.int v10), .unset] [(.ref b101), (.long v1)])) _
    refine st129.trans ?_
    show Steps p.tables e below (T129.setTop (mkF m 89 #[.val (.long q0), .second, .val (.long q1), .second, .val (.long q2), .second, .val (.long q3), .second, .val (.ref b101), .val (.long v1), .second, .val (.long v2), .second, .val (.int v10), .unset] [(.long q3), (.long v1)])) _
    refine XS.aload X129.here hx rfl (hb hby at_89) rfl rfl ?_
    show Steps p.tables e below (T129.setTop (mkF m 91 #[.val (.long q0), .second, .val (.long q1), .second, .val (.long q2), .second, .val (.long q3), .second, .val (.ref b101), .val (.long v1), .second, .val (.long v2), .second, .val (.int v10), .unset] [(.ref b101), (.long q3), (.long v1)])) _
    refine st130.trans ?_
    show Steps p.tables e below (T130.setTop (mkF m 94 #[.val (.long q0), .second, .val (.long q1), .second, .val (.long q2), .second, .val (.long q3), .second, .val (.ref b101), .val (.long v1), .second, .val (.long v2), .second, .val (.int v10), .unset] [(.long q2), (.long q3), (.long v1)])) _
    refine XS.ladd X130.here hx rfl (hb hby at_94) rfl ?_
    show Steps p.tables e below (T130.setTop (mkF m 95 #[.val (.long q0), .second, .val (.long q1), .second, .val (.long q2), .second, .val (.long q3), .second, .val (.ref b101), .val (.long v1), .second, .val (.long v2), .second, .val (.int v10), .unset] [(.long (q3 + q2)), (.long v1)])) _
    refine XS.aload X130.here hx rfl (hb hby at_95) rfl rfl ?_
    show Steps p.tables e below (T130.setTop (mkF m 97 #[.val (.long q0), .second, .val (.long q1), .second, .val (.long q2), .second, .val (.long q3), .second, .val (.ref b101), .val (.long v1), .second, .val (.long v2), .second, .val (.int v10), .unset] [(.ref b101), (.long (q3 + q2)), (.long v1)])) _
    refine st131.trans ?_
    show Steps p.tables e below (T131.setTop (mkF m 100 #[.val (.long q0), .second, .val (.long q1), .second, .val (.long q2), .second, .val (.long q3), .second, .val (.ref b101), .val (.long v1), .second, .val (.long v2), .second, .val (.int v10), .unset] [(.long q1), (.long (q3 + q2)), (.long v1)])) _
    refine XS.aload X131.here hx rfl (hb hby at_100) rfl rfl ?_
    show Steps p.tables e below (T131.setTop (mkF m 102 #[.val (.long q0), .second, .val (.long q1), .second, .val (.long q2), .second, .val (.long q3), .second, .val (.ref b101), .val (.long v1), .second, .val (.long v2), .second, .val (.int v10), .unset] [(.ref b101), (.long q1), (.long (q3 + q2)), (.long v1)])) _
    refine st132.trans ?_
    show Steps p.tables e below (T132.setTop (mkF m 105 #[.val (.long q0), .second, .val (.long q1), .second, .val (.long q2), .second, .val (.long q3), .second, .val (.ref b101), .val (.long v1), .second, .val (.long v2), .second, .val (.int v10), .unset] [(.long q0), (.long q1), (.long (q3 + q2)), (.long v1)])) _
    refine XS.ladd X132.here hx rfl (hb hby at_105) rfl ?_
    show Steps p.tables e below (T132.setTop (mkF m 106 #[.val (.long q0), .second, .val (.long q1), .second, .val (.long q2), .second, .val (.long q3), .second, .val (.ref b101), .val (.long v1), .second, .val (.long v2), .second, .val (.int v10), .unset] [(.long (q1 + q0)), (.long (q3 + q2)), (.long v1)])) _
    refine XS.ladd X132.here hx rfl (hb hby at_106) rfl ?_
    show Steps p.tables e below (T132.setTop (mkF m 107 #[.val (.long q0), .second, .val (.long q1), .second, .val (.long q2), .second, .val (.long q3), .second, .val (.ref b101), .val (.long v1), .second, .val (.long v2), .second, .val (.int v10), .unset] [(.long ((q3 + q2) + (q1 + q0))), (.long v1)])) _
    refine XS.lcmp X132.here hx rfl (hb hby at_107) rfl ?_
    show Steps p.tables e below (T132.setTop (mkF m 108 #[.val (.long q0), .second, .val (.long q1), .second, .val (.long q2), .second, .val (.long q3), .second, .val (.ref b101), .val (.long v1), .second, .val (.long v2), .second, .val (.int v10), .unset] [(.int (lcmpW v1 ((q3 + q2) + (q1 + q0))))])) _
    refine st135 _ ?_
    show Steps p.tables e below (T135.setTop (mkF m 116 #[.val (.long q0), .second, .val (.long q1), .second, .val (.long q2), .second, .val (.long q3), .second, .val (.ref b101), .val (.long v1), .second, .val (.long v2), .second, .val (.int v10), .unset] [(.int v12)])) _
    refine XS.istore X135.here hx rfl (hb hby at_116) rfl (l' := #[.val (.long q0), .second, .val (.long q1), .second, .val (.long q2), .second, .val (.long q3), .second, .val (.ref b101), .val (.long v1), .second, .val (.long v2), .second, .val (.int v10), .val (.int v12)]) rfl ?_
    show Steps p.tables e below (T135.setTop (mkF m 118 #[.val (.long q0), .second, .val (.long q1), .second, .val (.long q2), .second, .val (.long q3), .second, .val (.ref b101), .val (.long v1), .second, .val (.long v2), .second, .val (.int v10), .val (.int v12)] [])) _
    refine XS.lload X135.here hx rfl (hb hby at_118) rfl ?_
    show Steps p.tables e below (T135.setTop (mkF m 120 #[.val (.long q0), .second, .val (.long q1), .second, .val (.long q2), .second, .val (.long q3), .second, .val (.ref b101), .val (.long v1), .second, .val (.long v2), .second, .val (.int v10), .val (.int v12)] [(.long v1)])) _
    refine XS.lload X135.here hx rfl (hb hby at_120) rfl ?_
    show Steps p.tables e below (T135.setTop (mkF m 122 #[.val (.long q0), .second, .val (.long q1), .second, .val (.long q2), .second, .val (.long q3), .second, .val (.ref b101), .val (.long v1), .second, .val (.long v2), .second, .val (.int v10), .val (.int v12)] [(.long v2), (.long v1)])) _
    refine XS.lcmp X135.here hx rfl (hb hby at_122) rfl ?_
    show Steps p.tables e below (T135.setTop (mkF m 123 #[.val (.long q0), .second, .val (.long q1), .second, .val (.long q2), .second, .val (.long q3), .second, .val (.ref b101), .val (.long v1), .second, .val (.long v2), .second, .val (.int v10), .val (.int v12)] [(.int (lcmpW v1 v2))])) _
    refine st144 _ ?_
    exact kt
  refine own_go hgo145 ?_
  have hz146 : v18 = 1 := own_leaf0 hv1 hv2 hv7 hv8 hv9 hv10 hv12 hv16 hv17 hv18
  exact own_retZ X144 hx Bd.returns Bd.notSynchronized (hb hby at_141) (by decide) (by decide) (Or.inr hz146) ⟨by rw [hz146], N144⟩
set_option maxRecDepth 65536 in
set_option maxHeartbeats 40000000 in
theorem comes_1 {Post : Tables → Env → Array Value → State → Outcome → State → Prop} (hpost : ∀ tb e args s v u, (limb_1_1.after args s (.returned v) u = true ∧ limb_1_2.after args s (.returned v) u = true ∧ True) → FrameEnd s (.returned v) u (Jvm.fieldLocs frame_1_writes args s ++ Jvm.arrayLocs frame_1_arrays args s ++ Jvm.staticLocs frame_1_statics s) 16 128 → Post tb e args s (.returned v) u) :
    ArmFor flags0 classFile x code maxLocals ret World_1 tables_1 room_1 Calls_1 rest_1 Pre_1 Post := by
  intro l hfl _ _ p e ha hc hk s m args below hf hA hF happ hP
  obtain ⟨hcalls, hrest, hpre⟩ := hP
  obtain ⟨-, -, -, hnamed, -, -, -, hat⟩ := (Spec.applies_iff hf).mp happ
  obtain ⟨hg, hn⟩ := and_e (Cond.before_iff.mp (show (Jvm.Cond.and given_1 narrow_1).before args s = true from hpre))
  obtain ⟨gg1, gg2⟩ := and_e hg
  obtain ⟨gg3, gg4⟩ := and_e gg2
  obtain ⟨gg5, gg6⟩ := and_e gg4
  obtain ⟨gg7, gg8⟩ := and_e gg6
  obtain ⟨w0, w1, w2, w3, rfl⟩ : ∃ w0 w1 w2 w3 : Value, args = #[w0, w1, w2, w3] := by
    have hs : args.size = 4 := by simpa [Cond.value, given_1] using gg1
    obtain ⟨L⟩ := args
    match L, hs with
    | [w0, w1, w2, w3], _ => exact ⟨w0, w1, w2, w3, rfl⟩
  have hw := fun d (hd : d ∈ tables_1) => atoms_spec (ws := Jvm.Cond.code x code maxLocals ret :: tables_1) hat d (List.mem_cons_of_mem _ hd)
  have hfit : Fit s := fun {y c} hc i hi => by
    obtain ⟨ha, rfl⟩ := Array.getElem?_eq_some_iff.mp hc
    have q := List.all_eq_true.mp ((Array.all_eq_true_iff_forall_mem.mp hF) _ (Array.getElem_mem ha)) i (List.mem_range.mpr hi)
    simpa [Array.getElem?_eq_getElem hi] using q
  obtain ⟨i0, ei0⟩ := isL_v gg3
  obtain rfl : w0 = (.long i0) := Option.some.inj ei0
  obtain ⟨i1, ei1⟩ := isL_v gg5
  obtain rfl : w1 = (.long i1) := Option.some.inj ei1
  obtain ⟨i2, ei2⟩ := isL_v gg7
  obtain rfl : w2 = (.long i2) := Option.some.inj ei2
  obtain ⟨i3, ei3⟩ := isL_v gg8
  obtain rfl : w3 = (.long i3) := Option.some.inj ei3
  obtain ⟨n, o, h1, h2, h3, _, L, rfl, ⟨rfl, N⟩, hq⟩ := rm0 l s _ hw tables_1 i0 i1 i2 i3 s.heap s.heap.size (Nat.le_refl _)  p e ha hc hk s m _ below hf ((Spec.applies_iff_loose hf).mp happ).1 ⟨rfl, State.Warmed39.refl s, rfl⟩ trivial
  refine ⟨n, _, h1, h2, h3, hpost _ _ _ _ _ _ ⟨Cond.after_iff.mpr rfl, Cond.after_iff.mpr (eq_i res_at (Term.int_eval (1)) rfl), trivial⟩ ⟨hq.1, hq.2.1, (hq.2.2.sift fun y hy => Or.inr (N y hy)).mono (by decide) (by decide)⟩⟩
theorem main_1_1 : Claimed_1_1 := comes_1 fun _ _ _ _ _ _ h hF => ⟨h.1, hF⟩
theorem main_1_2 : Claimed_1_2 := comes_1 fun _ _ _ _ _ _ h hF => ⟨h.2.1, hF⟩
end Jvm.Pilot.@@N@@
namespace Jvm.Pilot.@@N@@
open Jvm Jvm.ClassFile Sem Op Lib Jvm.Free Jvm.Stand Jvm.Pilot.@@N@@.Jvm.D
/-! MADE BY PROGRAM (witnessworld.py) out of the Statement's table words and the real class files: 9 classes; the members and pool entries that the words name. The judged class is class 1, her method 1. -/
namespace start1
open Jvm.ClassFile
def u (s : String) : CpInfo := .utf8 (stringToUtf16 s)
/-- a pool by its gaps: so many unusable entries, then the entry; so many at the end -/
def gap : Nat → List CpInfo → List CpInfo
  | 0, r => r
  | n + 1, r => .unusable :: gap n r
def poolList (es : List (Nat × CpInfo)) (last : Nat) : List CpInfo := es.foldr (fun e r => gap e.1 (e.2 :: r)) (gap last [])
def pool (es : List (Nat × CpInfo)) (last : Nat) : Array CpInfo := ⟨poolList es last⟩
def fileOf (pool : Array CpInfo) (this : Nat) (attrs : Array Attribute := #[]) (ms : Array MethodInfo := #[]) (fl : Nat := 33) (sup : Nat := 0) (ifs : Array Nat := #[]) (fds : Array FieldInfo := #[]) : ClassFile where
  minorVersion := 0
  majorVersion := 65
  constantPool := pool
  accessFlags := fl
  thisClass := this
  superClass := sup
  interfaces := ifs
  fields := fds
  methods := ms
  attributes := attrs
def plain (name : String) (sup : Option ClassId) : Class where
  name := name
  kind := .ordinary
  loader := none
  accessFlags := 33
  super := sup
  interfaces := #[]
  cf := none
  fields := #[]
  methods := #[]
  instanceTypes := #[]
  staticTypes := #[]
  resolved := #[]
  callSites := []
  init := .initialized
  statics := none
  mirror := none

def pool0 : Array CpInfo := pool [(5, u "<init>"), (0, u "()V"), (1, .class_ 10), (1, u "java/lang/Object")] 113

def k0c0 : Code := { maxStack := 0, maxLocals := 1, code := object_method_1_code, exceptionTable := #[], attributes := #[] }
def k0m0 : Method := { name := "<init>", desc := "()V", sig := { parameters := [], returnType := none }, accessFlags := 1, code := some k0c0 }
/-- java/lang/Object -/
def k0 : Class := { plain "java/lang/Object" none with
  accessFlags := 33
  interfaces := #[]
  cf := some (fileOf pool0 8 #[] #[{ accessFlags := 1, nameIndex := 5, descriptorIndex := 6, attributes := #[] }] 33 0 #[] #[])
  fields := #[]
  methods := #[k0m0]
  instanceTypes := #[]
  staticTypes := #[]
  resolved := Array.replicate 124 none
  statics := none }

def pool1 : Array CpInfo := pool [(2, .class_ 4), (1, u "java/lang/Object"), (0, u "<init>"), (0, u "()V"), (0, .class_ 8), (0, u "com/example/canonic/canonic/CheckStats"), (0, .methodref 7 10), (0, .nameAndType 5 11), (0, u "(JJJJ)V"), (0, .methodref 7 13), (0, .nameAndType 14 15), (0, u "checked"), (0, u "()J"), (0, .methodref 7 17), (0, .nameAndType 18 15), (0, u "settledLocally"), (0, .methodref 7 20), (0, .nameAndType 21 15), (0, u "settledByKeptAnswer"), (0, .methodref 7 23), (0, .nameAndType 24 15), (0, u "settledByRequest"), (0, .methodref 7 26), (0, .nameAndType 27 15), (0, u "unknown"), (0, .class_ 29), (0, u "com/example/canonic/canonic/CheckStatsCheckedPinLaw"), (2, u "law"), (0, u "(JJJJ)Z")] 3

def k1m0 : Method := { name := "<init>", desc := "()V", sig := { parameters := [], returnType := none }, accessFlags := 1, code := none }
def k1c1 : Code := { maxStack := 10, maxLocals := 15, code := code, exceptionTable := #[], attributes := #[] }
def k1m1 : Method := { name := "law", desc := "(JJJJ)Z", sig := { parameters := [.long, .long, .long, .long], returnType := some .boolean }, accessFlags := 9, code := some k1c1 }
/-- com/example/canonic/canonic/CheckStatsCheckedPinLaw -/
def k1 : Class := { plain "com/example/canonic/canonic/CheckStatsCheckedPinLaw" (some 0) with
  accessFlags := 49
  interfaces := #[]
  cf := some (fileOf pool1 28 #[] #[{ accessFlags := 1, nameIndex := 5, descriptorIndex := 6, attributes := #[] }, { accessFlags := 9, nameIndex := 32, descriptorIndex := 33, attributes := #[] }] 49 2 #[] #[])
  fields := #[]
  methods := #[k1m0, k1m1]
  instanceTypes := #[]
  staticTypes := #[]
  resolved := Array.replicate 37 none
  statics := none }

def pool2 : Array CpInfo := pool [(1, .methodref 2 3), (0, .class_ 4), (0, .nameAndType 5 6), (0, u "java/lang/Object"), (0, u "<init>"), (0, u "()V"), (0, .fieldref 8 9), (0, .class_ 10), (0, .nameAndType 11 12), (0, u "com/example/canonic/canonic/CheckStats"), (0, u "settledLocally"), (0, u "J"), (0, .fieldref 8 14), (0, .nameAndType 15 12), (0, u "settledByKeptAnswer"), (0, .fieldref 8 17), (0, .nameAndType 18 12), (0, u "settledByRequest"), (0, .fieldref 8 20), (0, .nameAndType 21 12), (0, u "unknown"), (2, u "checked"), (0, u "()J"), (4, u "(JJJJ)V")] 21

def k2c0 : Code := { maxStack := 3, maxLocals := 9, code := prog_4_method_1_code, exceptionTable := #[], attributes := #[] }
def k2m0 : Method := { name := "<init>", desc := "(JJJJ)V", sig := { parameters := [.long, .long, .long, .long], returnType := none }, accessFlags := 0, code := some k2c0 }
def k2c1 : Code := { maxStack := 4, maxLocals := 1, code := prog_4_method_2_code, exceptionTable := #[], attributes := #[] }
def k2m1 : Method := { name := "checked", desc := "()J", sig := { parameters := [], returnType := some .long }, accessFlags := 1, code := some k2c1 }
def k2c2 : Code := { maxStack := 2, maxLocals := 1, code := prog_4_method_3_code, exceptionTable := #[], attributes := #[] }
def k2m2 : Method := { name := "settledLocally", desc := "()J", sig := { parameters := [], returnType := some .long }, accessFlags := 1, code := some k2c2 }
def k2c3 : Code := { maxStack := 2, maxLocals := 1, code := prog_4_method_4_code, exceptionTable := #[], attributes := #[] }
def k2m3 : Method := { name := "settledByKeptAnswer", desc := "()J", sig := { parameters := [], returnType := some .long }, accessFlags := 1, code := some k2c3 }
def k2c4 : Code := { maxStack := 2, maxLocals := 1, code := prog_4_method_5_code, exceptionTable := #[], attributes := #[] }
def k2m4 : Method := { name := "settledByRequest", desc := "()J", sig := { parameters := [], returnType := some .long }, accessFlags := 1, code := some k2c4 }
def k2c5 : Code := { maxStack := 2, maxLocals := 1, code := prog_4_method_6_code, exceptionTable := #[], attributes := #[] }
def k2m5 : Method := { name := "unknown", desc := "()J", sig := { parameters := [], returnType := some .long }, accessFlags := 1, code := some k2c5 }
/-- com/example/canonic/canonic/CheckStats -/
def k2 : Class := { plain "com/example/canonic/canonic/CheckStats" (some 0) with
  accessFlags := 49
  interfaces := #[]
  cf := some (fileOf pool2 8 #[] #[{ accessFlags := 0, nameIndex := 5, descriptorIndex := 30, attributes := #[] }, { accessFlags := 1, nameIndex := 24, descriptorIndex := 25, attributes := #[] }, { accessFlags := 1, nameIndex := 11, descriptorIndex := 25, attributes := #[] }, { accessFlags := 1, nameIndex := 15, descriptorIndex := 25, attributes := #[] }, { accessFlags := 1, nameIndex := 18, descriptorIndex := 25, attributes := #[] }, { accessFlags := 1, nameIndex := 21, descriptorIndex := 25, attributes := #[] }] 49 2 #[] #[{ accessFlags := 18, nameIndex := 11, descriptorIndex := 12, attributes := #[] }, { accessFlags := 18, nameIndex := 15, descriptorIndex := 12, attributes := #[] }, { accessFlags := 18, nameIndex := 18, descriptorIndex := 12, attributes := #[] }, { accessFlags := 18, nameIndex := 21, descriptorIndex := 12, attributes := #[] }])
  fields := #[{ name := "settledLocally", type := .long, accessFlags := 18, slot := 0, constantValue := 0 }, { name := "settledByKeptAnswer", type := .long, accessFlags := 18, slot := 1, constantValue := 0 }, { name := "settledByRequest", type := .long, accessFlags := 18, slot := 2, constantValue := 0 }, { name := "unknown", type := .long, accessFlags := 18, slot := 3, constantValue := 0 }]
  methods := #[k2m0, k2m1, k2m2, k2m3, k2m4, k2m5]
  instanceTypes := #[.long, .long, .long, .long]
  staticTypes := #[]
  resolved := Array.replicate 52 none
  statics := none }

def pool3 : Array CpInfo := pool [(1, u "java/lang/Cloneable"), (0, .class_ 1), (0, u "java/lang/Object"), (0, .class_ 3)] 3

/-- java/lang/Cloneable -/
def k3 : Class := { plain "java/lang/Cloneable" (some 0) with
  accessFlags := 1537
  interfaces := #[]
  cf := some (fileOf pool3 2 #[] #[] 1537 4 #[] #[])
  fields := #[]
  methods := #[]
  instanceTypes := #[]
  staticTypes := #[]
  resolved := Array.replicate 8 none
  statics := none }

def pool4 : Array CpInfo := pool [(1, u "java/io/Serializable"), (0, .class_ 1), (0, u "java/lang/Object"), (0, .class_ 3)] 3

/-- java/io/Serializable -/
def k4 : Class := { plain "java/io/Serializable" (some 0) with
  accessFlags := 1537
  interfaces := #[]
  cf := some (fileOf pool4 2 #[] #[] 1537 4 #[] #[])
  fields := #[]
  methods := #[]
  instanceTypes := #[]
  staticTypes := #[]
  resolved := Array.replicate 8 none
  statics := none }

/-- the primitive byte -/
def k5 : Class := { plain "byte" none with kind := .primitive 'B', accessFlags := 0x411 }
/-- [B -/
def k6 : Class := { plain "[B" (some 0) with kind := .array 5 .byte, interfaces := #[3, 4], accessFlags := 1041 }

/-- the primitive int -/
def k7 : Class := { plain "int" none with kind := .primitive 'I', accessFlags := 0x411 }
/-- [I -/
def k8 : Class := { plain "[I" (some 0) with kind := .array 7 .int, interfaces := #[3, 4], accessFlags := 1041 }

def heap : Heap := #[]
def classes : Array Class := #[k0, k1, k2, k3, k4, k5, k6, k7, k8]
def interned : List (Array UInt16 × Addr) := []
def slotsUsed : Nat := 0
def theMethod : MethodId := ⟨1, 1⟩
def args0 : Array Value := #[.long 5, .long 5, .long 5, .long 5]
def aboutOver (below : List Frame) : State where
  vm := { classes := classes, interned := interned.toArray }
  heap := heap
  slotsUsed := slotsUsed
  threads := #[{ frames := .invoking theMethod args0 :: below }]
def below0 : List Frame := [.native { method := ⟨0, 0⟩, args := #[] }]
def about1 : State := aboutOver below0
def p0 : Program := .bare "" "" ""
def e0 : Env := launch0.env 0 0 0
theorem w_frames : about1.frames = Frame.invoking theMethod args0 :: below0 := rfl
set_option maxRecDepth 65536 in
theorem w_args : argsFit about1.vm theMethod args0 = true := by decide +kernel
set_option maxRecDepth 65536 in
theorem w_heap : heapFits about1 = true := by decide +kernel
set_option maxRecDepth 65536 in
theorem w_runnable : about1.curStatus? = some .runnable := by decide +kernel
set_option maxRecDepth 65536 in
theorem w_alone : about1.alone = true := by decide +kernel
set_option maxRecDepth 65536 in
theorem w_named : about1.methodNamed? x = some theMethod := by decide +kernel
set_option maxRecDepth 65536 in
theorem w_hears : about1.hears theMethod below0 = true := by decide +kernel
set_option maxRecDepth 65536 in
theorem w_ripe : about1.ripe theMethod args0 below0 = true := by decide +kernel
theorem w_running : about1.status = .running := rfl
set_option maxRecDepth 65536 in
theorem w_room : about1.hasRoom e0.platform room_1 = true :=
  launch0.hasRoom_least _ room_1 (by decide +kernel) (by decide +kernel) (by decide +kernel) (by decide +kernel) (by decide +kernel) (by decide +kernel)
theorem allAtoms_all (ts : List Jvm.Cond) (a : Array Jvm.Value) (st : Jvm.State) : (allAtoms ts).before a st = ts.all (fun c => c.before a st) := by
  induction ts with
  | nil => rfl
  | cons c t ih =>
    show (Jvm.Cond.and c (allAtoms t)).before a st = _
    rw [Jvm.Cond.before_and, ih, List.all_cons]
def words1 : List Jvm.Cond := Jvm.Cond.code x code maxLocals ret :: tables_1
/-- a 'code' word, met by the world's own term for the bytes: nothing is compared byte by byte -/
theorem code_word {y : MethodName} {bytes : ByteArray} {mx : Nat} {rt : Option FieldType} {a : Array Value} {s : State} {m : MethodId} {meth : Method} {c : Code} (h1 : s.methodNamed? y = some m) (h2 : s.vm.method? m = some meth) (h3 : meth.code = some c) (h4 : c.code = bytes)
    (h5 : (c.maxLocals == mx && c.exceptionTable.isEmpty && decide (c.maxStack ≤ mostOperands) && decide (meth.sig.returnType = rt) && !meth.locks && decide (parseMethodDescriptor y.desc = some meth.sig)) = true) : (Jvm.Cond.code y bytes mx rt).before a s = true := by
  simp only [Bool.and_eq_true, beq_iff_eq, Bool.not_eq_true', decide_eq_true_eq] at h5
  obtain ⟨⟨⟨⟨⟨g1, g2⟩, g3⟩, g4⟩, g5⟩, g6⟩ := h5
  simp [Cond.before, Cond.holds, Cond.value, h1, h2, h3, h4, g1, g2, g3, g4, g5, g6]
def isCode : Jvm.Cond → Bool
  | .code _ _ _ _ => true
  | _ => false
theorem all_split {L : List Jvm.Cond} {P : Jvm.Cond → Bool} (h1 : L.all (fun c => isCode c || P c) = true) (h2 : ∀ c ∈ L.filter isCode, P c = true) : L.all P = true := by
  refine List.all_eq_true.mpr fun c hc => ?_
  have h := List.all_eq_true.mp h1 c hc
  rcases Bool.eq_false_or_eq_true (isCode c) with hi | hi
  · exact h2 c (List.mem_filter.mpr ⟨hc, hi⟩)
  · simpa [hi] using h
set_option maxRecDepth 65536 in
theorem w_c0 : (Jvm.Cond.code x code maxLocals ret).before args0 about1 = true := code_word (m := ⟨1, 1⟩) (meth := k1m1) (c := k1c1) (by decide +kernel) rfl rfl rfl (by decide +kernel)
set_option maxRecDepth 65536 in
theorem w_c1 : (Jvm.Cond.code ({ cls := "com/example/canonic/canonic/CheckStats", name := "<init>", desc := "(JJJJ)V" } : Jvm.MethodName) prog_4_method_1_code (9 : Nat) (Option.none : Option Jvm.ClassFile.FieldType)).before args0 about1 = true := code_word (m := ⟨2, 0⟩) (meth := k2m0) (c := k2c0) (by decide +kernel) rfl rfl rfl (by decide +kernel)
set_option maxRecDepth 65536 in
theorem w_c2 : (Jvm.Cond.code ({ cls := "java/lang/Object", name := "<init>", desc := "()V" } : Jvm.MethodName) object_method_1_code (1 : Nat) (Option.none : Option Jvm.ClassFile.FieldType)).before args0 about1 = true := code_word (m := ⟨0, 0⟩) (meth := k0m0) (c := k0c0) (by decide +kernel) rfl rfl rfl (by decide +kernel)
set_option maxRecDepth 65536 in
theorem w_c3 : (Jvm.Cond.code ({ cls := "com/example/canonic/canonic/CheckStats", name := "checked", desc := "()J" } : Jvm.MethodName) prog_4_method_2_code (1 : Nat) (Option.some Jvm.ClassFile.FieldType.long)).before args0 about1 = true := code_word (m := ⟨2, 1⟩) (meth := k2m1) (c := k2c1) (by decide +kernel) rfl rfl rfl (by decide +kernel)
set_option maxRecDepth 65536 in
theorem w_c4 : (Jvm.Cond.code ({ cls := "com/example/canonic/canonic/CheckStats", name := "settledLocally", desc := "()J" } : Jvm.MethodName) prog_4_method_3_code (1 : Nat) (Option.some Jvm.ClassFile.FieldType.long)).before args0 about1 = true := code_word (m := ⟨2, 2⟩) (meth := k2m2) (c := k2c2) (by decide +kernel) rfl rfl rfl (by decide +kernel)
set_option maxRecDepth 65536 in
theorem w_c5 : (Jvm.Cond.code ({ cls := "com/example/canonic/canonic/CheckStats", name := "settledByKeptAnswer", desc := "()J" } : Jvm.MethodName) prog_4_method_4_code (1 : Nat) (Option.some Jvm.ClassFile.FieldType.long)).before args0 about1 = true := code_word (m := ⟨2, 3⟩) (meth := k2m3) (c := k2c3) (by decide +kernel) rfl rfl rfl (by decide +kernel)
set_option maxRecDepth 65536 in
theorem w_c6 : (Jvm.Cond.code ({ cls := "com/example/canonic/canonic/CheckStats", name := "settledByRequest", desc := "()J" } : Jvm.MethodName) prog_4_method_5_code (1 : Nat) (Option.some Jvm.ClassFile.FieldType.long)).before args0 about1 = true := code_word (m := ⟨2, 4⟩) (meth := k2m4) (c := k2c4) (by decide +kernel) rfl rfl rfl (by decide +kernel)
set_option maxRecDepth 65536 in
theorem w_c7 : (Jvm.Cond.code ({ cls := "com/example/canonic/canonic/CheckStats", name := "unknown", desc := "()J" } : Jvm.MethodName) prog_4_method_6_code (1 : Nat) (Option.some Jvm.ClassFile.FieldType.long)).before args0 about1 = true := code_word (m := ⟨2, 5⟩) (meth := k2m5) (c := k2c5) (by decide +kernel) rfl rfl rfl (by decide +kernel)
def codes1 : List Jvm.Cond := [Jvm.Cond.code x code maxLocals ret, Jvm.Cond.code ({ cls := "com/example/canonic/canonic/CheckStats", name := "<init>", desc := "(JJJJ)V" } : Jvm.MethodName) prog_4_method_1_code (9 : Nat) (Option.none : Option Jvm.ClassFile.FieldType), Jvm.Cond.code ({ cls := "java/lang/Object", name := "<init>", desc := "()V" } : Jvm.MethodName) object_method_1_code (1 : Nat) (Option.none : Option Jvm.ClassFile.FieldType), Jvm.Cond.code ({ cls := "com/example/canonic/canonic/CheckStats", name := "checked", desc := "()J" } : Jvm.MethodName) prog_4_method_2_code (1 : Nat) (Option.some Jvm.ClassFile.FieldType.long), Jvm.Cond.code ({ cls := "com/example/canonic/canonic/CheckStats", name := "settledLocally", desc := "()J" } : Jvm.MethodName) prog_4_method_3_code (1 : Nat) (Option.some Jvm.ClassFile.FieldType.long), Jvm.Cond.code ({ cls := "com/example/canonic/canonic/CheckStats", name := "settledByKeptAnswer", desc := "()J" } : Jvm.MethodName) prog_4_method_4_code (1 : Nat) (Option.some Jvm.ClassFile.FieldType.long), Jvm.Cond.code ({ cls := "com/example/canonic/canonic/CheckStats", name := "settledByRequest", desc := "()J" } : Jvm.MethodName) prog_4_method_5_code (1 : Nat) (Option.some Jvm.ClassFile.FieldType.long), Jvm.Cond.code ({ cls := "com/example/canonic/canonic/CheckStats", name := "unknown", desc := "()J" } : Jvm.MethodName) prog_4_method_6_code (1 : Nat) (Option.some Jvm.ClassFile.FieldType.long)]
set_option maxRecDepth 65536 in
theorem codes_eq : words1.filter isCode = codes1 := rfl
theorem w_codes : ∀ c ∈ words1.filter isCode, c.before args0 about1 = true := by
  rw [codes_eq]
  intro c hc
  simp only [codes1, List.mem_cons, List.not_mem_nil, or_false] at hc
  rcases hc with rfl | rfl | rfl | rfl | rfl | rfl | rfl | rfl
  · exact w_c0
  · exact w_c1
  · exact w_c2
  · exact w_c3
  · exact w_c4
  · exact w_c5
  · exact w_c6
  · exact w_c7
set_option maxRecDepth 65536 in
theorem w_t1 : (words1.take 24).all (fun c => isCode c || c.before args0 about1) = true := by decide +kernel
set_option maxRecDepth 65536 in
theorem w_t2 : (words1.drop 24).all (fun c => isCode c || c.before args0 about1) = true := by decide +kernel
theorem w_tables : (allAtoms (Jvm.Cond.code x code maxLocals ret :: tables_1)).before args0 about1 = true := by
  rw [allAtoms_all]
  show words1.all (fun c => c.before args0 about1) = true
  refine all_split ?_ w_codes
  rw [← List.take_append_drop 24 words1, List.all_append, w_t1, w_t2]
  rfl
set_option maxRecDepth 65536 in
theorem w_case : (Jvm.Cond.and given_1 narrow_1).before args0 about1 = true := by decide +kernel
theorem w_applies : (headSpec (Jvm.Cond.code x code maxLocals ret :: tables_1) room_1).applies x e0.platform about1 = true :=
  (Spec.applies_iff w_frames).mpr ⟨w_running, w_runnable, w_alone, w_named, w_hears, w_ripe, w_room, w_tables⟩
theorem atStart : AtStart classFile x code maxLocals ret World_1 tables_1 room_1 Calls_1 rest_1 Pre_1 launch0 p0 e0 about1 theMethod args0 below0 :=
  ⟨lists_1, trivial, launch0.admits_env _ _ _, launch0.least_env, fairChoices_fair.cas, fairChoices_fair.clock, w_frames, w_args, w_heap, w_applies, trivial, trivial, w_case⟩
end start1
theorem witness_1 : WitnessClaimed_1 := ⟨start1.p0, start1.e0, start1.about1, start1.theMethod, start1.args0, start1.below0, start1.atStart⟩
end Jvm.Pilot.@@N@@
