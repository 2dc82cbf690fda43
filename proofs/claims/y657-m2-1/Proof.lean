import JvmDerived
import JvmDerived.Pilot.@@N@@Statement
import JvmDerived.Pilot.@@N@@Code
set_option linter.unusedVariables false
set_option linter.unusedSimpArgs false
namespace Jvm.Pilot.@@N@@
open Jvm Jvm.ClassFile Sem Op Lib Jvm.Free Jvm.Stand Jvm.LawKit Jvm.RoadKit Bundle Jvm.Pilot.@@N@@.Jvm.D
section OwnKit
variable {p : Program} {l : Launch} {e : Env} {R : Room} {s : State} {m : MethodId} {args : Array Value} {below : List Frame} {meth : Method} {c : Code} {T : State} {locs : List Loc} {cells slots : Nat}
/-- from the state A the body runs to its end and leaves what Q says -/
def own_Go (p : Program) (e : Env) (below : List Frame) (s : State) (Q : Option Value → Heap → List Loc → Prop) (kc ks : Nat) (A : State) : Prop :=
  ∃ s₂ o, Steps p.tables e below A s₂ ∧ s₂.status = .running ∧ Ended s₂ below o ∧ ∃ v L, o = .returned v ∧ Q v s₂.heap L ∧ FrameEnd s o s₂ L kc ks
theorem own_go {Q : Option Value → Heap → List Loc → Prop} {kc ks : Nat} {A B : State} (h : ∀ t, Steps p.tables e below B t → Steps p.tables e below A t) (k : own_Go p e below s Q kc ks B) : own_Go p e below s Q kc ks A := by
  obtain ⟨s₂, o, h1, h2⟩ := k
  exact ⟨s₂, o, h _ h1, h2⟩
/-- from the state A the body runs to the frame g', the heap as it was -/
def own_Arm (p : Program) (l : Launch) (e : Env) (R : Room) (s : State) (m : MethodId) (args : Array Value) (below : List Frame) (meth : Method) (c : Code) (cells slots n0 : Nat) (h : Heap) (g' : JFrame) (A : State) : Prop :=
  ∃ (T' : State) (locs' : List Loc), Stand p l e R s m args below meth c T' locs' cells slots ∧ Fr n0 locs' ∧ T'.heap = h ∧ ∀ t, Steps p.tables e below (T'.setTop g') t → Steps p.tables e below A t
theorem own_arm {n0 : Nat} {h : Heap} {g' : JFrame} {A B : State} (k1 : ∀ t, Steps p.tables e below B t → Steps p.tables e below A t) (k : own_Arm p l e R s m args below meth c cells slots n0 h g' B) : own_Arm p l e R s m args below meth c cells slots n0 h g' A := by
  obtain ⟨T', locs', h1, h2, h3, h4⟩ := k
  exact ⟨T', locs', h1, h2, h3, fun t kt => k1 t (h4 t kt)⟩
theorem own_armEnd {n0 : Nat} {h : Heap} {g g' : JFrame} (X : Stand p l e R s m args below meth c T locs cells slots) (N : Fr n0 locs) (eT : T.heap = h) (q : g' = g) : own_Arm p l e R s m args below meth c cells slots n0 h g' (T.setTop g) :=
  ⟨T, locs, X, N, eT, fun t kt => q ▸ kt⟩
theorem own_mrg {n0 : Nat} {h : Heap} {g g' : JFrame} (X : Stand p l e R s m args below meth c T locs cells slots) (k : own_Arm p l e R s m args below meth c cells slots n0 h g' (T.setTop g)) :
    ∃ (T' : State) (locs' : List Loc), Stand p l e R s m args below meth c T' locs' cells slots ∧ Fr n0 locs' ∧ T'.heap = h ∧ ∀ t, Steps p.tables e below (T'.setTop g') t → Steps p.tables e below (T.setTop g) t := k
theorem own_leave {Q : Option Value → Heap → List Loc → Prop} {kc ks : Nat} {A : State} {v : Option Value} (X : Stand p l e R s m args below meth c T locs cells slots) (hv : meth.sig.returnType = none → v = none) (hlk : meth.locks = false)
    (hc : cells ≤ kc) (hs : slots ≤ ks) (hQ : Q v T.heap locs) (k : ∀ fs, (∀ (f : JFrame) (acts : List Action), f.method = m → f.locked = none → f.entered = [] → (doReturn e (T.setTop f) acts v).1 = T.setFrames fs) → Steps p.tables e below A (T.setFrames fs)) : own_Go p e below s Q kc ks A := by
  obtain ⟨fs, hr, hrun, hended, hW, hsame⟩ := X.leave (v := v) hv hlk
  exact ⟨_, _, k fs hr, hrun, hended, _, _, rfl, hQ, ⟨_, rfl⟩, hW, hsame.mono hc hs⟩
theorem own_retI {Q : Option Value → Heap → List Loc → Prop} {kc ks pc : Nat} {Ls : Array Slot} {z : Int32} {rest : List Value} (X : Stand p l e R s m args below meth c T locs cells slots) (hx : p.tables.exec = Jvm.exec) (hret : meth.sig.returnType = some .int) (hlk : meth.locks = false)
    (hd : decode c.code pc = .ok (.ireturn, 1)) (hc : cells ≤ kc) (hs : slots ≤ ks) (hQ : Q (some (.int z)) T.heap locs) : own_Go p e below s Q kc ks (T.setTop (mkF m pc Ls (.int z :: rest))) := by
  refine own_leave X (fun h => by rw [hret] at h; cases h) hlk hc hs hQ fun fs hl => ?_
  have hm' : T.vm.method? m = some meth := X.method'
  have hn : narrow .int (.int z) = .int z := rfl
  show Steps p.tables e below (T.setTop { method := m, pc := pc, locals := Ls, stack := _ :: rest, locked := none }) _
  jvm_step X.here [X.here.top, hx, hd, hm', hret, hn]
  first | (intro acts; rw [hl _ acts rfl rfl rfl]) | rw [hl _ _ rfl rfl rfl]
  exact Steps.refl _
theorem own_retN {Q : Option Value → Heap → List Loc → Prop} {kc ks pc : Nat} {Ls : Array Slot} {z : Int32} {rest : List Value} {t : FieldType} (X : Stand p l e R s m args below meth c T locs cells slots) (hx : p.tables.exec = Jvm.exec) (hret : meth.sig.returnType = some t) (ht : t = .boolean ∨ t = .byte ∨ t = .char ∨ t = .short) (hlk : meth.locks = false)
    (hd : decode c.code pc = .ok (.ireturn, 1)) (hc : cells ≤ kc) (hs : slots ≤ ks) (hQ : Q (some (.int (nar t z))) T.heap locs) : own_Go p e below s Q kc ks (T.setTop (mkF m pc Ls (.int z :: rest))) :=
  own_leave X (fun h => by rw [hret] at h; cases h) hlk hc hs hQ fun fs hl => retN X hx (t := t) hret ht hd hl
theorem own_nar01 {z : Int32} (h : z = 0 ∨ z = 1) : nar .boolean z = z := by rcases h with rfl | rfl <;> rfl
theorem own_retZ {Q : Option Value → Heap → List Loc → Prop} {kc ks pc : Nat} {Ls : Array Slot} {z : Int32} {rest : List Value} (X : Stand p l e R s m args below meth c T locs cells slots) (hx : p.tables.exec = Jvm.exec) (hret : meth.sig.returnType = some .boolean) (hlk : meth.locks = false)
    (hd : decode c.code pc = .ok (.ireturn, 1)) (hc : cells ≤ kc) (hs : slots ≤ ks) (hz : z = 0 ∨ z = 1) (hQ : Q (some (.int z)) T.heap locs) : own_Go p e below s Q kc ks (T.setTop (mkF m pc Ls (.int z :: rest))) :=
  own_retN X hx hret (Or.inl rfl) hlk hd hc hs (by rw [own_nar01 hz]; exact hQ)
theorem own_retJ {Q : Option Value → Heap → List Loc → Prop} {kc ks pc : Nat} {Ls : Array Slot} {z : Int64} (X : Stand p l e R s m args below meth c T locs cells slots) (hx : p.tables.exec = Jvm.exec) (hret : meth.sig.returnType = some .long) (hlk : meth.locks = false)
    (hd : decode c.code pc = .ok (.lreturn, 1)) (hc : cells ≤ kc) (hs : slots ≤ ks) (hQ : Q (some (.long z)) T.heap locs) : own_Go p e below s Q kc ks (T.setTop (mkF m pc Ls [.long z])) :=
  own_leave X (fun h => by rw [hret] at h; cases h) hlk hc hs hQ fun fs hl => X.lreturnOut hx hret hd hl
theorem own_retA {Q : Option Value → Heap → List Loc → Prop} {kc ks pc : Nat} {Ls : Array Slot} {w : Value} {t : FieldType} {rest : List Value} (X : Stand p l e R s m args below meth c T locs cells slots) (hx : p.tables.exec = Jvm.exec) (hret : meth.sig.returnType = some t) (ht : t.isReference = true) (hw : w.isRef = true) (hlk : meth.locks = false)
    (hd : decode c.code pc = .ok (.areturn, 1)) (hc : cells ≤ kc) (hs : slots ≤ ks) (hQ : Q (some w) T.heap locs) : own_Go p e below s Q kc ks (T.setTop (mkF m pc Ls (w :: rest))) := by
  refine own_leave X (fun h => by rw [hret] at h; cases h) hlk hc hs hQ fun fs hl => ?_
  have hm' : T.vm.method? m = some meth := X.method'
  show Steps p.tables e below (T.setTop { method := m, pc := pc, locals := Ls, stack := _ :: rest, locked := none }) _
  rcases ref_cases hw with rfl | ⟨a, rfl⟩
  all_goals
    jvm_step X.here [X.here.top, hx, hd, hm', hret, Value.isRef, ht]
    first | (intro acts; rw [hl _ acts rfl rfl rfl]) | rw [hl _ _ rfl rfl rfl]
    exact Steps.refl _
theorem own_retV {Q : Option Value → Heap → List Loc → Prop} {kc ks pc : Nat} {Ls : Array Slot} (X : Stand p l e R s m args below meth c T locs cells slots) (hx : p.tables.exec = Jvm.exec) (hret : meth.sig.returnType = none) (hlk : meth.locks = false)
    (hd : decode c.code pc = .ok (.return_, 1)) (hc : cells ≤ kc) (hs : slots ≤ ks) (hQ : Q none T.heap locs) : own_Go p e below s Q kc ks (T.setTop (mkF m pc Ls [])) :=
  own_leave X (fun _ => rfl) hlk hc hs hQ fun fs hl => X.returnOut hx hret hd hl
theorem own_getFR {Z : State} {a0 : Array Value} {h : Heap} (X : Stand p l e R s m args below meth c T locs cells slots) (hx : p.tables.exec = Jvm.exec) (hZ : Z.Warmed39 s.vm) {own O n d : String} {index : Nat} (hown : s.vm.findClass own = some m.cls) (w : (Jvm.Cond.fieldRef own index O n d).before a0 Z = true)
    (eT : T.heap = h) {a : Addr} {v : Value} (F : Fld Z h a O n d v) {g : JFrame} (hg : g.method = m) {rest : List Value} (hs : g.stack = .ref a :: rest) (hd : decode c.code g.pc = .ok (.getfield index, 3)) (target : State) (k : Steps p.tables e below (T.setTop { g with pc := g.pc + 3, stack := v :: rest }) target) : Steps p.tables e below (T.setTop g) target := by
  obtain ⟨cell, cf, kc, i, f, h1, h2, h3, h4, -, -, h7⟩ := F
  have hW : Z.Warmed39 T.vm := wtrans hZ X.warmed
  have w2 := Cond.fieldRef_warmed39 hW w
  obtain ⟨k', hi, -⟩ := State.fieldFound?_setVm (s := Z) hW.alike h2
  have hc : (Z.setVm T.vm).vm.findClass own = some m.cls := by show T.vm.findClass own = _; rw [X.warmed.alike.findClass]; exact hown
  obtain ⟨c1, k1, i1, f1, e1, hr⟩ := Cond.fieldRef_spec hc w2
  cases hi.symm.trans e1
  exact (X.getfieldR hx hg (cF := cf) (field := f) hr h3 hs (by rw [eT]; exact h1) h4 h7 hd (Steps.refl _)).trans k
theorem own_ite01 {c : Prop} [Decidable c] {a b : Int32} (ha : a = 0 ∨ a = 1) (hb : b = 0 ∨ b = 1) : (if c then a else b) = 0 ∨ (if c then a else b) = 1 := by split <;> assumption
end OwnKit
theorem own_lc_eq {a b : Int64} (h : a = b) : lcmpW a b = 0 := by subst h; simp [lcmpW]
theorem own_lc_neq {a b : Int64} (h : ¬ (a = b)) : ¬ (lcmpW a b = 0) := by unfold lcmpW; split <;> first | decide | (rw [if_neg h]; decide)
theorem own_lc_lt {a b : Int64} (h : a < b) : lcmpW a b < 0 := by
  have h1 : ¬ (a > b) := fun q => Int64.lt_irrefl (Int64.lt_trans h q)
  have h2 : ¬ (a = b) := fun q => by subst q; exact Int64.lt_irrefl h
  rw [lcmpW, if_neg h1, if_neg h2]; decide
theorem own_lc_nlt {a b : Int64} (h : ¬ (a < b)) : ¬ (lcmpW a b < 0) := by
  unfold lcmpW
  split
  · decide
  · rename_i h1
    split
    · decide
    · rename_i h2; exact absurd (Int64.le_antisymm (Int64.not_lt.mp h1) (Int64.not_lt.mp h)) h2
theorem own_lc_gt {a b : Int64} (h : b < a) : (0 : Int32) < lcmpW a b := by rw [lcmpW, if_pos h]; decide
theorem own_lc_ngt {a b : Int64} (h : ¬ (b < a)) : ¬ ((0 : Int32) < lcmpW a b) := by
  rw [lcmpW, if_neg h]; split <;> decide
theorem own_rn {w : Value} {C : String} (h : w.isRef = true) : narrow (.object C) w = w := by rcases ref_cases h with rfl | ⟨a, rfl⟩ <;> rfl
theorem own_rf {w : Value} {C : String} (h : w.isRef = true) : fits (.object C) w = true := by rcases ref_cases h with rfl | ⟨a, rfl⟩ <;> rfl
theorem own_plainE {Z : State} {h : Heap} {a : Addr} {C : String} (E : Exa Z h a C) : ∀ cell : Cell, h[a]? = some cell → cell.vm.isStatics = false := fun cell hc => by
  obtain ⟨c, k, h1, -, -, h4, -⟩ := E
  cases h1.symm.trans hc; exact h4
theorem own_staKeep {Z : State} {h h' : Heap} {C n d : String} {v : Value} {ws : List Addr} (F : Sta Z h C n d v) (K : Keep h h' ws) (q : ∀ x ∈ ws, ∀ cell : Cell, h[x]? = some cell → cell.vm.isStatics = false) : Sta Z h' C n d v := by
  obtain ⟨cf, i, k, f, st, cell, h1, h2, h3, h4, h5, h6, h7⟩ := F
  exact ⟨cf, i, k, f, st, cell, h1, h2, h3, h4, K.2.1 st cell h5 (fun hm => by rw [q st hm cell h5] at h6; cases h6), h6, h7⟩
theorem d1_0 : decode prog_19_method_1_code 0 = .ok (.aload_n 0, 1) := by decide +kernel
theorem d1_1 : decode prog_19_method_1_code 1 = .ok (.invokespecial 1, 3) := by decide +kernel
theorem d1_4 : decode prog_19_method_1_code 4 = .ok (.aload_n 0, 1) := by decide +kernel
theorem d1_5 : decode prog_19_method_1_code 5 = .ok (.ldc2_w 9, 3) := by decide +kernel
theorem d1_8 : decode prog_19_method_1_code 8 = .ok (.putfield 11, 3) := by decide +kernel
theorem d1_11 : decode prog_19_method_1_code 11 = .ok (.aload_n 0, 1) := by decide +kernel
theorem d1_12 : decode prog_19_method_1_code 12 = .ok (.ldc2_w 9, 3) := by decide +kernel
theorem d1_15 : decode prog_19_method_1_code 15 = .ok (.putfield 17, 3) := by decide +kernel
theorem d1_18 : decode prog_19_method_1_code 18 = .ok (.return_, 1) := by decide +kernel
theorem ef_1 (m : MethodId) (r0 : Addr) : entryFrame m #[(.ref r0)] 1 = mkF m 0 #[.val (.ref r0)] [] := by (first | (simp [entryFrame, mkF, argsToLocals, Value.category]; done) | rfl)
theorem pn0 : plainName "com/example/millrace/millrace/queue/JournalClock" = true := by first | (simp [plainName, overriddenIn]; done) | decide +kernel
def Q1 (Z : State) (r0 : Addr) (w1 : Int64) (w2 : Int64) (w3 : Int64) (h0 : Heap) (n0 : Nat) (v : Option Value) (h : Heap) (L : List Loc) : Prop := v = none ∧ Fr n0 L ∧ Keep h0 h [r0] ∧ Exa Z h r0 "com/example/millrace/millrace/queue/JournalClock" ∧ Fld Z h r0 "com/example/millrace/millrace/queue/JournalClock" "latestMillis" "J" (.long (-9223372036854775808 : Int64)) ∧ Fld Z h r0 "com/example/millrace/millrace/queue/JournalClock" "millis" "J" (.long (-9223372036854775808 : Int64)) ∧ Fld Z h r0 "com/example/millrace/millrace/queue/JournalClock" "leadMillis" "J" (.long w3)
set_option maxRecDepth 65536 in
set_option maxHeartbeats 40000000 in
theorem rm1 (l : Launch) (Z : State) (a0 : Array Value) (hw : ∀ d ∈ tables_1, d.before a0 Z = true) (ws : List Jvm.Cond) (r0 : Addr) (w1 : Int64) (w2 : Int64) (w3 : Int64) (h0 : Heap) (n0 : Nat) (Z0 : n0 ≤ h0.size) (E_r0 : Exa Z h0 r0 "com/example/millrace/millrace/queue/JournalClock") (F_latestMillis_r0 : Fld Z h0 r0 "com/example/millrace/millrace/queue/JournalClock" "latestMillis" "J" (.long w1)) (F_millis_r0 : Fld Z h0 r0 "com/example/millrace/millrace/queue/JournalClock" "millis" "J" (.long w2)) (F_leadMillis_r0 : Fld Z h0 r0 "com/example/millrace/millrace/queue/JournalClock" "leadMillis" "J" (.long w3)) (g_r0 : n0 ≤ r0) :
    MetFree l (⟨"com/example/millrace/millrace/queue/JournalClock", "<init>", "()V"⟩ : MethodName) (head1 (Jvm.Cond.code (⟨"com/example/millrace/millrace/queue/JournalClock", "<init>", "()V"⟩ : MethodName) prog_19_method_1_code 1 none :: ws) ({ frames := 1, cells := 0, slots := 0, locals := 12 } : Room)) (fun a U => a = #[(.ref r0)] ∧ Z.Warmed39 U.vm ∧ U.heap = h0) (fun _ _ _ _ _ => True) (fun _ U o U' => ∃ v L, o = .returned v ∧ Q1 Z r0 w1 w2 w3 h0 n0 v U'.heap L ∧ FrameEnd U o U' L ({ frames := 1, cells := 0, slots := 0, locals := 12 } : Room).cells ({ frames := 1, cells := 0, slots := 0, locals := 12 } : Room).slots) := by
  refine MetFree.of_bodySF (plainFor_of_name pn0) hisR ?_
  intro p e s m args below meth c s₁ Bd hml0 hP hK
  obtain ⟨rfl, hZ, hh⟩ := hP
  have hx := Bd.exec
  have hby := Bd.bytes
  have hml : c.maxLocals = 1 := hml0
  have hown : s.vm.findClass "com/example/millrace/millrace/queue/JournalClock" = some m.cls := findClass_of_methodNamed Bd.named
  have hnm := (name_of_methodNamed Bd.named Bd.method).1
  have X0 : Stand p l e ({ frames := 1, cells := 0, slots := 0, locals := 12 } : Room) s m #[(.ref r0)] below meth c s₁ [] 0 0 := Stand.of_body Bd
  have e0 : s₁.heap = h0 := by rw [← hh, Bd.state]; rfl
  have N0 := Fr.nil n0
  have K0 : Keep h0 h0 [r0] := Keep.refl h0 _
  show own_Go p e below s (Q1 Z r0 w1 w2 w3 h0 n0) ({ frames := 1, cells := 0, slots := 0, locals := 12 } : Room).cells ({ frames := 1, cells := 0, slots := 0, locals := 12 } : Room).slots (s₁.setTop (entryFrame m #[(.ref r0)] 1))
  refine own_go (fun t k => castTop (ef_1 m r0) k) ?_
  obtain ⟨T101, X101, e101, st101⟩ := initO X0 hx hZ hown (hw _ (List.mem_of_getElem? (i := 6) rfl)) (hw _ (List.mem_of_getElem? (i := 7) rfl)) (hw _ (List.mem_of_getElem? (i := 8) rfl)) e0 (g := (mkF m 1 #[.val (.ref r0)] [(.ref r0)])) rfl (by rw [hml]; rfl) rfl (hb hby d1_1) (by decide) (W := 0) (by show 2 * 0 + _ ≤ _; exact Nat.le_of_eq rfl) (by decide)
  obtain ⟨T102, h102, X102, e102, W102, st102⟩ := putF X101 hx hZ hown (host := "") (Or.inl (hw _ (List.mem_of_getElem? (i := 10) rfl))) Via.refl e101 F_latestMillis_r0 E_r0 (Or.inl (hw _ (List.mem_of_getElem? (i := 11) rfl))) (hw _ (List.mem_of_getElem? (i := 1) rfl)) (ty := .long) (by decide) rfl rfl (g := (mkF m 8 #[.val (.ref r0)] [(.long (-9223372036854775808 : Int64)), (.ref r0)])) rfl rfl (hb hby d1_8)
  have F103 := E_r0.wr W102
  have F104 := F_latestMillis_r0.same W102
  have F105 := F_millis_r0.other W102 (Or.inr (slot_ne (Or.inl (hw _ (List.mem_of_getElem? (i := 13) rfl))) (Or.inl (hw _ (List.mem_of_getElem? (i := 11) rfl))) (by decide) (t := .long) (t' := .long) (by decide) (by decide)))
  have F106 := F_leadMillis_r0.other W102 (Or.inr (slot_ne (Or.inl (hw _ (List.mem_of_getElem? (i := 24) rfl))) (Or.inl (hw _ (List.mem_of_getElem? (i := 11) rfl))) (by decide) (t := .long) (t' := .long) (by decide) (by decide)))
  have Z107 : n0 ≤ h102.size := Nat.le_trans Z0 (Keep.of_wr W102).1
  have K108 : Keep h0 h102 [r0] := K0.wr W102 (Or.inl (List.mem_of_getElem? (i := 0) rfl))
  have N109 := Fr.snoc X102 N0 g_r0
  obtain ⟨T110, h110, X110, e110, W110, st110⟩ := putF X102 hx hZ hown (host := "") (Or.inl (hw _ (List.mem_of_getElem? (i := 12) rfl))) Via.refl e102 F105 F103 (Or.inl (hw _ (List.mem_of_getElem? (i := 13) rfl))) (hw _ (List.mem_of_getElem? (i := 1) rfl)) (ty := .long) (by decide) rfl rfl (g := (mkF m 15 #[.val (.ref r0)] [(.long (-9223372036854775808 : Int64)), (.ref r0)])) rfl rfl (hb hby d1_15)
  have F111 := F103.wr W110
  have F112 := F104.other W110 (Or.inr (slot_ne (Or.inl (hw _ (List.mem_of_getElem? (i := 11) rfl))) (Or.inl (hw _ (List.mem_of_getElem? (i := 13) rfl))) (by decide) (t := .long) (t' := .long) (by decide) (by decide)))
  have F113 := F105.same W110
  have F114 := F106.other W110 (Or.inr (slot_ne (Or.inl (hw _ (List.mem_of_getElem? (i := 24) rfl))) (Or.inl (hw _ (List.mem_of_getElem? (i := 13) rfl))) (by decide) (t := .long) (t' := .long) (by decide) (by decide)))
  have Z115 : n0 ≤ h110.size := Nat.le_trans Z107 (Keep.of_wr W110).1
  have K116 : Keep h0 h110 [r0] := K108.wr W110 (Or.inl (List.mem_of_getElem? (i := 0) rfl))
  have N117 := Fr.snoc X110 N109 g_r0
  have hgo118 : ∀ t, Steps p.tables e below (T110.setTop (mkF m 18 #[.val (.ref r0)] [])) t → Steps p.tables e below (s₁.setTop (mkF m 0 #[.val (.ref r0)] [])) t := by
    intro t kt
    show Steps p.tables e below (s₁.setTop (mkF m 0 #[.val (.ref r0)] [])) _
    refine XS.aloadN X0.here hx rfl (hb hby d1_0) rfl rfl ?_
    show Steps p.tables e below (s₁.setTop (mkF m 1 #[.val (.ref r0)] [(.ref r0)])) _
    refine st101 _ ?_
    show Steps p.tables e below (T101.setTop (mkF m 4 #[.val (.ref r0)] [])) _
    refine XS.aloadN X101.here hx rfl (hb hby d1_4) rfl rfl ?_
    show Steps p.tables e below (T101.setTop (mkF m 5 #[.val (.ref r0)] [(.ref r0)])) _
    refine X101.ldc2Long hx hown (mvT hZ (hw _ (List.mem_of_getElem? (i := 9) rfl))) (g := (mkF m 5 #[.val (.ref r0)] [(.ref r0)])) rfl (hb hby d1_5) _ ?_
    show Steps p.tables e below (T101.setTop (mkF m 8 #[.val (.ref r0)] [(.long (-9223372036854775808 : Int64)), (.ref r0)])) _
    refine st102 _ ?_
    show Steps p.tables e below (T102.setTop (mkF m 11 #[.val (.ref r0)] [])) _
    refine XS.aloadN X102.here hx rfl (hb hby d1_11) rfl rfl ?_
    show Steps p.tables e below (T102.setTop (mkF m 12 #[.val (.ref r0)] [(.ref r0)])) _
    refine X102.ldc2Long hx hown (mvT hZ (hw _ (List.mem_of_getElem? (i := 9) rfl))) (g := (mkF m 12 #[.val (.ref r0)] [(.ref r0)])) rfl (hb hby d1_12) _ ?_
    show Steps p.tables e below (T102.setTop (mkF m 15 #[.val (.ref r0)] [(.long (-9223372036854775808 : Int64)), (.ref r0)])) _
    refine st110 _ ?_
    exact kt
  refine own_go hgo118 ?_
  exact own_retV X110 hx Bd.returns Bd.notSynchronized (hb hby d1_18) (by decide) (by decide) (by rw [e110]; exact ⟨(by rfl), N117, K116, F111, (by exact F112), (by exact F113), (by exact F114)⟩)
theorem d4_0 : decode jdk_29_method_66_code 0 = .ok (.lload_n 0, 1) := by decide +kernel
theorem d4_1 : decode jdk_29_method_66_code 1 = .ok (.lload_n 2, 1) := by decide +kernel
theorem d4_2 : decode jdk_29_method_66_code 2 = .ok (.lcmp, 1) := by decide +kernel
theorem d4_3 : decode jdk_29_method_66_code 3 = .ok (.ifCond .lt 7, 3) := by decide +kernel
theorem d4_6 : decode jdk_29_method_66_code 6 = .ok (.lload_n 0, 1) := by decide +kernel
theorem d4_7 : decode jdk_29_method_66_code 7 = .ok (.goto 4, 3) := by decide +kernel
theorem d4_10 : decode jdk_29_method_66_code 10 = .ok (.lload_n 2, 1) := by decide +kernel
theorem d4_11 : decode jdk_29_method_66_code 11 = .ok (.lreturn, 1) := by decide +kernel
theorem ef_4 (m : MethodId) (q0 : Int64) (q1 : Int64) : entryFrame m #[(.long q0), (.long q1)] 4 = mkF m 0 #[.val (.long q0), .second, .val (.long q1), .second] [] := by (first | (simp [entryFrame, mkF, argsToLocals, Value.category]; done) | rfl)
def own_r4 (q0 : Int64) (q1 : Int64) : Int64 := (if q0 < q1 then q1 else q0)
def Q4 (Z : State) (q0 : Int64) (q1 : Int64) (h0 : Heap) (n0 : Nat) (v : Option Value) (h : Heap) (L : List Loc) : Prop := v = some (.long (own_r4 q0 q1)) ∧ Fr n0 L ∧ h = h0
set_option maxRecDepth 65536 in
set_option maxHeartbeats 40000000 in
theorem rm4 (l : Launch) (Z : State) (a0 : Array Value) (hw : ∀ d ∈ tables_1, d.before a0 Z = true) (ws : List Jvm.Cond) (q0 : Int64) (q1 : Int64) (h0 : Heap) (n0 : Nat) (Z0 : n0 ≤ h0.size) :
    MetFree l (⟨"java/lang/Math", "max", "(JJ)J"⟩ : MethodName) (head1 (Jvm.Cond.code (⟨"java/lang/Math", "max", "(JJ)J"⟩ : MethodName) jdk_29_method_66_code 4 (some .long) :: ws) ({ frames := 0, cells := 0, slots := 0, locals := 0 } : Room)) (fun a U => a = #[(.long q0), (.long q1)] ∧ Z.Warmed39 U.vm ∧ U.heap = h0) (fun _ _ _ _ _ => True) (fun _ U o U' => ∃ v L, o = .returned v ∧ Q4 Z q0 q1 h0 n0 v U'.heap L ∧ FrameEnd U o U' L ({ frames := 0, cells := 0, slots := 0, locals := 0 } : Room).cells ({ frames := 0, cells := 0, slots := 0, locals := 0 } : Room).slots) := by
  refine MetFree.of_bodySF (Jvm.Free.JP.mathPlain rfl (by decide +kernel)) hisR ?_
  intro p e s m args below meth c s₁ Bd hml0 hP hK
  obtain ⟨rfl, hZ, hh⟩ := hP
  have hx := Bd.exec
  have hby := Bd.bytes
  have hml : c.maxLocals = 4 := hml0
  have hown : s.vm.findClass "java/lang/Math" = some m.cls := findClass_of_methodNamed Bd.named
  have hnm := (name_of_methodNamed Bd.named Bd.method).1
  have X0 : Stand p l e ({ frames := 0, cells := 0, slots := 0, locals := 0 } : Room) s m #[(.long q0), (.long q1)] below meth c s₁ [] 0 0 := Stand.of_body Bd
  have e0 : s₁.heap = h0 := by rw [← hh, Bd.state]; rfl
  have N0 := Fr.nil n0
  have K0 : Keep h0 h0 [] := Keep.refl h0 _
  show own_Go p e below s (Q4 Z q0 q1 h0 n0) ({ frames := 0, cells := 0, slots := 0, locals := 0 } : Room).cells ({ frames := 0, cells := 0, slots := 0, locals := 0 } : Room).slots (s₁.setTop (entryFrame m #[(.long q0), (.long q1)] 4))
  refine own_go (fun t k => castTop (ef_4 m q0 q1) k) ?_
  obtain ⟨v2, hv2⟩ : ∃ z : Int64, z = (if q0 < q1 then q1 else q0) := ⟨_, rfl⟩
  obtain ⟨T103, lc103, X103, N103, e103, st103⟩ := own_mrg (n0 := n0) (h := h0) (g := (mkF m 3 #[.val (.long q0), .second, .val (.long q1), .second] [(.int (lcmpW q0 q1))])) (g' := (mkF m 11 #[.val (.long q0), .second, .val (.long q1), .second] [(.long v2)])) X0 (by
    by_cases hc3_1 : q0 < q1
    · have hgo101 : ∀ t, Steps p.tables e below (s₁.setTop (mkF m 11 #[.val (.long q0), .second, .val (.long q1), .second] [(.long q1)])) t → Steps p.tables e below (s₁.setTop (mkF m 3 #[.val (.long q0), .second, .val (.long q1), .second] [(.int (lcmpW q0 q1))])) t := by
        intro t kt
        show Steps p.tables e below (s₁.setTop (mkF m 3 #[.val (.long q0), .second, .val (.long q1), .second] [(.int (lcmpW q0 q1))])) _
        refine XS.ifYes X0.here hx rfl (pc0 := 3) (pc' := 10) rfl (hb hby d4_3) rfl ((if0 _ _).trans (tlt (own_lc_lt hc3_1)).1) (by decide) (by decide) ?_
        show Steps p.tables e below (s₁.setTop (mkF m 10 #[.val (.long q0), .second, .val (.long q1), .second] [])) _
        refine XS.lloadN X0.here hx rfl (hb hby d4_10) rfl ?_
        exact kt
      refine own_arm hgo101 ?_
      exact own_armEnd X0 N0 e0 (by rw [hv2.trans (if_pos hc3_1)])
    · have hgo102 : ∀ t, Steps p.tables e below (s₁.setTop (mkF m 11 #[.val (.long q0), .second, .val (.long q1), .second] [(.long q0)])) t → Steps p.tables e below (s₁.setTop (mkF m 3 #[.val (.long q0), .second, .val (.long q1), .second] [(.int (lcmpW q0 q1))])) t := by
        intro t kt
        show Steps p.tables e below (s₁.setTop (mkF m 3 #[.val (.long q0), .second, .val (.long q1), .second] [(.int (lcmpW q0 q1))])) _
        refine XS.ifNo X0.here hx rfl (hb hby d4_3) rfl ((if0 _ _).trans (flt (own_lc_nlt hc3_1)).1) ?_
        show Steps p.tables e below (s₁.setTop (mkF m 6 #[.val (.long q0), .second, .val (.long q1), .second] [])) _
        refine XS.lloadN X0.here hx rfl (hb hby d4_6) rfl ?_
        show Steps p.tables e below (s₁.setTop (mkF m 7 #[.val (.long q0), .second, .val (.long q1), .second] [(.long q0)])) _
        refine XS.goto X0.here hx rfl (pc0 := 7) (pc' := 11) rfl (hb hby d4_7) (by decide) (by decide) ?_
        exact kt
      refine own_arm hgo102 ?_
      exact own_armEnd X0 N0 e0 (by rw [hv2.trans (if_neg hc3_1)]))
  have hgo104 : ∀ t, Steps p.tables e below (T103.setTop (mkF m 11 #[.val (.long q0), .second, .val (.long q1), .second] [(.long v2)])) t → Steps p.tables e below (s₁.setTop (mkF m 0 #[.val (.long q0), .second, .val (.long q1), .second] [])) t := by
    intro t kt
    show Steps p.tables e below (s₁.setTop (mkF m 0 #[.val (.long q0), .second, .val (.long q1), .second] [])) _
    refine XS.lloadN X0.here hx rfl (hb hby d4_0) rfl ?_
    show Steps p.tables e below (s₁.setTop (mkF m 1 #[.val (.long q0), .second, .val (.long q1), .second] [(.long q0)])) _
    refine XS.lloadN X0.here hx rfl (hb hby d4_1) rfl ?_
    show Steps p.tables e below (s₁.setTop (mkF m 2 #[.val (.long q0), .second, .val (.long q1), .second] [(.long q1), (.long q0)])) _
    refine XS.lcmp X0.here hx rfl (hb hby d4_2) rfl ?_
    show Steps p.tables e below (s₁.setTop (mkF m 3 #[.val (.long q0), .second, .val (.long q1), .second] [(.int (lcmpW q0 q1))])) _
    refine st103 _ ?_
    exact kt
  refine own_go hgo104 ?_
  exact own_retJ X103 hx Bd.returns Bd.notSynchronized (hb hby d4_11) (by decide) (by decide) (by rw [e103]; exact ⟨(by subst hv2; rw [own_r4]), N103, rfl⟩)
theorem pd1 : parseMethodDescriptor "(JJ)J" = some ⟨[.long, .long], some .long⟩ := by decide +kernel
theorem d3_0 : decode prog_19_method_5_code 0 = .ok (.aload_n 0, 1) := by decide +kernel
theorem d3_1 : decode prog_19_method_5_code 1 = .ok (.aload_n 0, 1) := by decide +kernel
theorem d3_2 : decode prog_19_method_5_code 2 = .ok (.getfield 11, 3) := by decide +kernel
theorem d3_5 : decode prog_19_method_5_code 5 = .ok (.lload_n 1, 1) := by decide +kernel
theorem d3_6 : decode prog_19_method_5_code 6 = .ok (.invokestatic 26, 3) := by decide +kernel
theorem d3_9 : decode prog_19_method_5_code 9 = .ok (.putfield 11, 3) := by decide +kernel
theorem d3_12 : decode prog_19_method_5_code 12 = .ok (.lload_n 1, 1) := by decide +kernel
theorem d3_13 : decode prog_19_method_5_code 13 = .ok (.aload_n 0, 1) := by decide +kernel
theorem d3_14 : decode prog_19_method_5_code 14 = .ok (.getfield 20, 3) := by decide +kernel
theorem d3_17 : decode prog_19_method_5_code 17 = .ok (.ladd, 1) := by decide +kernel
theorem d3_18 : decode prog_19_method_5_code 18 = .ok (.lstore_n 3, 1) := by decide +kernel
theorem d3_19 : decode prog_19_method_5_code 19 = .ok (.lload_n 3, 1) := by decide +kernel
theorem d3_20 : decode prog_19_method_5_code 20 = .ok (.aload_n 0, 1) := by decide +kernel
theorem d3_21 : decode prog_19_method_5_code 21 = .ok (.getfield 17, 3) := by decide +kernel
theorem d3_24 : decode prog_19_method_5_code 24 = .ok (.lcmp, 1) := by decide +kernel
theorem d3_25 : decode prog_19_method_5_code 25 = .ok (.ifCond .ge 17, 3) := by decide +kernel
theorem d3_28 : decode prog_19_method_5_code 28 = .ok (.aload_n 0, 1) := by decide +kernel
theorem d3_29 : decode prog_19_method_5_code 29 = .ok (.getfield 17, 3) := by decide +kernel
theorem d3_32 : decode prog_19_method_5_code 32 = .ok (.lconst 1, 1) := by decide +kernel
theorem d3_33 : decode prog_19_method_5_code 33 = .ok (.ladd, 1) := by decide +kernel
theorem d3_34 : decode prog_19_method_5_code 34 = .ok (.lstore_n 3, 1) := by decide +kernel
theorem d3_35 : decode prog_19_method_5_code 35 = .ok (.aload_n 0, 1) := by decide +kernel
theorem d3_36 : decode prog_19_method_5_code 36 = .ok (.lload_n 3, 1) := by decide +kernel
theorem d3_37 : decode prog_19_method_5_code 37 = .ok (.lload_n 1, 1) := by decide +kernel
theorem d3_38 : decode prog_19_method_5_code 38 = .ok (.lsub, 1) := by decide +kernel
theorem d3_39 : decode prog_19_method_5_code 39 = .ok (.putfield 20, 3) := by decide +kernel
theorem d3_42 : decode prog_19_method_5_code 42 = .ok (.aload_n 0, 1) := by decide +kernel
theorem d3_43 : decode prog_19_method_5_code 43 = .ok (.lload_n 3, 1) := by decide +kernel
theorem d3_44 : decode prog_19_method_5_code 44 = .ok (.putfield 17, 3) := by decide +kernel
theorem d3_47 : decode prog_19_method_5_code 47 = .ok (.return_, 1) := by decide +kernel
theorem ef_3 (m : MethodId) (r0 : Addr) (q1 : Int64) : entryFrame m #[(.ref r0), (.long q1)] 5 = mkF m 0 #[.val (.ref r0), .val (.long q1), .second, .unset, .unset] [] := by (first | (simp [entryFrame, mkF, argsToLocals, Value.category]; done) | rfl)
def Q3 (Z : State) (r0 : Addr) (q1 : Int64) (w2 : Int64) (w3 : Int64) (w4 : Int64) (h0 : Heap) (n0 : Nat) (v : Option Value) (h : Heap) (L : List Loc) : Prop := ∃ x0 : Int64, ∃ x1 : Int64, v = none ∧ Fr n0 L ∧ Keep h0 h [r0] ∧ Exa Z h r0 "com/example/millrace/millrace/queue/JournalClock" ∧ Fld Z h r0 "com/example/millrace/millrace/queue/JournalClock" "latestMillis" "J" (.long (own_r4 w2 q1)) ∧ Fld Z h r0 "com/example/millrace/millrace/queue/JournalClock" "millis" "J" (.long x0) ∧ Fld Z h r0 "com/example/millrace/millrace/queue/JournalClock" "leadMillis" "J" (.long x1)
set_option maxRecDepth 65536 in
set_option maxHeartbeats 40000000 in
theorem rm3 (l : Launch) (Z : State) (a0 : Array Value) (hw : ∀ d ∈ tables_1, d.before a0 Z = true) (ws : List Jvm.Cond) (r0 : Addr) (q1 : Int64) (w2 : Int64) (w3 : Int64) (w4 : Int64) (h0 : Heap) (n0 : Nat) (Z0 : n0 ≤ h0.size) (F_latestMillis_r0 : Fld Z h0 r0 "com/example/millrace/millrace/queue/JournalClock" "latestMillis" "J" (.long w2)) (E_r0 : Exa Z h0 r0 "com/example/millrace/millrace/queue/JournalClock") (F_millis_r0 : Fld Z h0 r0 "com/example/millrace/millrace/queue/JournalClock" "millis" "J" (.long w3)) (F_leadMillis_r0 : Fld Z h0 r0 "com/example/millrace/millrace/queue/JournalClock" "leadMillis" "J" (.long w4)) (g_r0 : n0 ≤ r0) :
    MetFree l (⟨"com/example/millrace/millrace/queue/JournalClock", "written", "(J)V"⟩ : MethodName) (head1 (Jvm.Cond.code (⟨"com/example/millrace/millrace/queue/JournalClock", "written", "(J)V"⟩ : MethodName) prog_19_method_5_code 5 none :: ws) ({ frames := 1, cells := 0, slots := 0, locals := 16 } : Room)) (fun a U => a = #[(.ref r0), (.long q1)] ∧ Z.Warmed39 U.vm ∧ U.heap = h0) (fun _ _ _ _ _ => True) (fun _ U o U' => ∃ v L, o = .returned v ∧ Q3 Z r0 q1 w2 w3 w4 h0 n0 v U'.heap L ∧ FrameEnd U o U' L ({ frames := 1, cells := 0, slots := 0, locals := 16 } : Room).cells ({ frames := 1, cells := 0, slots := 0, locals := 16 } : Room).slots) := by
  refine MetFree.of_bodySF (plainFor_of_name pn0) hisR ?_
  intro p e s m args below meth c s₁ Bd hml0 hP hK
  obtain ⟨rfl, hZ, hh⟩ := hP
  have hx := Bd.exec
  have hby := Bd.bytes
  have hml : c.maxLocals = 5 := hml0
  have hown : s.vm.findClass "com/example/millrace/millrace/queue/JournalClock" = some m.cls := findClass_of_methodNamed Bd.named
  have hnm := (name_of_methodNamed Bd.named Bd.method).1
  have X0 : Stand p l e ({ frames := 1, cells := 0, slots := 0, locals := 16 } : Room) s m #[(.ref r0), (.long q1)] below meth c s₁ [] 0 0 := Stand.of_body Bd
  have e0 : s₁.heap = h0 := by rw [← hh, Bd.state]; rfl
  have N0 := Fr.nil n0
  have K0 : Keep h0 h0 [r0] := Keep.refl h0 _
  show own_Go p e below s (Q3 Z r0 q1 w2 w3 w4 h0 n0) ({ frames := 1, cells := 0, slots := 0, locals := 16 } : Room).cells ({ frames := 1, cells := 0, slots := 0, locals := 16 } : Room).slots (s₁.setTop (entryFrame m #[(.ref r0), (.long q1)] 5))
  refine own_go (fun t k => castTop (ef_3 m r0 q1) k) ?_
  obtain ⟨T101, X101, e101, st101⟩ := getF X0 hx hZ hown (host := "") (Or.inl (hw _ (List.mem_of_getElem? (i := 10) rfl))) Via.refl e0 F_latestMillis_r0 (g := (mkF m 2 #[.val (.ref r0), .val (.long q1), .second, .unset, .unset] [(.ref r0), (.ref r0)])) rfl rfl (hb hby d3_2)
  obtain ⟨_, _, ⟨T102, L102, k102, n102⟩, -, X102, ⟨Lc102, hQ102, l102, y102, z102⟩, st102⟩ := Jvm.LawKit.callS X101 hx (y := (⟨"java/lang/Math", "max", "(JJ)J"⟩ : MethodName)) hown (mvT hZ (hw _ (List.mem_of_getElem? (i := 19) rfl))) (mvT hZ (hw _ (List.mem_of_getElem? (i := 20) rfl))) (mvT hZ (hw _ (List.mem_of_getElem? (i := 21) rfl))) (mvT hZ (hw _ (List.mem_of_getElem? (i := 22) rfl))) (by decide) (backOf (W := 1) (rm4 l Z a0 hw [] w2 q1 h0 n0 Z0 ) hZ (hw _ (List.mem_of_getElem? (i := 22) rfl)) (hw _ (List.mem_of_getElem? (i := 21) rfl)) (by decide) (by decide)) (g := (mkF m 6 #[.val (.ref r0), .val (.long q1), .second, .unset, .unset] [(.long q1), (.long w2), (.ref r0)])) rfl (by rw [hml]; rfl) (argsL := [(.long w2), (.long q1)]) (rest := [(.ref r0)]) (lenOf pd1 rfl) rfl (by show 2 * 0 + _ ≤ _; exact Nat.le_of_eq rfl) (hb hby d3_6) (fun _ _ => ⟨rfl, e101, (by decide : 0 + 0 ≤ _), (by decide : 0 + 0 ≤ _)⟩)
  dsimp only [Pt.U, Pt.locs, Pt.cells, Pt.slots] at X102 l102 y102 z102 st102 hQ102
  subst l102 y102 z102
  obtain ⟨rfl, N102q, e102⟩ := hQ102
  have N102 := Fr.app N0 N102q
  obtain ⟨v1, hv1⟩ : ∃ z : Int64, z = (own_r4 w2 q1) := ⟨_, rfl⟩
  obtain ⟨T103, h103, X103, e103, W103, st103⟩ := putF X102 hx hZ hown (host := "") (Or.inl (hw _ (List.mem_of_getElem? (i := 10) rfl))) Via.refl e102 F_latestMillis_r0 E_r0 (Or.inl (hw _ (List.mem_of_getElem? (i := 11) rfl))) (hw _ (List.mem_of_getElem? (i := 1) rfl)) (ty := .long) (by decide) rfl rfl (g := (mkF m 9 #[.val (.ref r0), .val (.long q1), .second, .unset, .unset] [(.long v1), (.ref r0)])) rfl rfl (hb hby d3_9)
  have F104 := F_latestMillis_r0.same W103
  have F105 := E_r0.wr W103
  have F106 := F_millis_r0.other W103 (Or.inr (slot_ne (Or.inl (hw _ (List.mem_of_getElem? (i := 13) rfl))) (Or.inl (hw _ (List.mem_of_getElem? (i := 11) rfl))) (by decide) (t := .long) (t' := .long) (by decide) (by decide)))
  have F107 := F_leadMillis_r0.other W103 (Or.inr (slot_ne (Or.inl (hw _ (List.mem_of_getElem? (i := 24) rfl))) (Or.inl (hw _ (List.mem_of_getElem? (i := 11) rfl))) (by decide) (t := .long) (t' := .long) (by decide) (by decide)))
  have Z108 : n0 ≤ h103.size := Nat.le_trans Z0 (Keep.of_wr W103).1
  have K109 : Keep h0 h103 [r0] := K0.wr W103 (Or.inl (List.mem_of_getElem? (i := 0) rfl))
  have N110 := Fr.snoc X103 N102 g_r0
  obtain ⟨T111, X111, e111, st111⟩ := getF X103 hx hZ hown (host := "") (Or.inl (hw _ (List.mem_of_getElem? (i := 23) rfl))) Via.refl e103 F107 (g := (mkF m 14 #[.val (.ref r0), .val (.long q1), .second, .unset, .unset] [(.ref r0), (.long q1)])) rfl rfl (hb hby d3_14)
  obtain ⟨v2, hv2⟩ : ∃ z : Int64, z = (q1 + w4) := ⟨_, rfl⟩
  obtain ⟨T112, X112, e112, st112⟩ := getF X111 hx hZ hown (host := "") (Or.inl (hw _ (List.mem_of_getElem? (i := 12) rfl))) Via.refl e111 F106 (g := (mkF m 21 #[.val (.ref r0), .val (.long q1), .second, .val (.long v2), .second] [(.ref r0), (.long v2)])) rfl rfl (hb hby d3_21)
  have hgo114 : ∀ t, Steps p.tables e below (T112.setTop (mkF m 25 #[.val (.ref r0), .val (.long q1), .second, .val (.long v2), .second] [(.int (lcmpW v2 w3))])) t → Steps p.tables e below (s₁.setTop (mkF m 0 #[.val (.ref r0), .val (.long q1), .second, .unset, .unset] [])) t := by
    intro t kt
    show Steps p.tables e below (s₁.setTop (mkF m 0 #[.val (.ref r0), .val (.long q1), .second, .unset, .unset] [])) _
    refine XS.aloadN X0.here hx rfl (hb hby d3_0) rfl rfl ?_
    show Steps p.tables e below (s₁.setTop (mkF m 1 #[.val (.ref r0), .val (.long q1), .second, .unset, .unset] [(.ref r0)])) _
    refine XS.aloadN X0.here hx rfl (hb hby d3_1) rfl rfl ?_
    show Steps p.tables e below (s₁.setTop (mkF m 2 #[.val (.ref r0), .val (.long q1), .second, .unset, .unset] [(.ref r0), (.ref r0)])) _
    refine st101 _ ?_
    show Steps p.tables e below (T101.setTop (mkF m 5 #[.val (.ref r0), .val (.long q1), .second, .unset, .unset] [(.long w2), (.ref r0)])) _
    refine XS.lloadN X101.here hx rfl (hb hby d3_5) rfl ?_
    show Steps p.tables e below (T101.setTop (mkF m 6 #[.val (.ref r0), .val (.long q1), .second, .unset, .unset] [(.long q1), (.long w2), (.ref r0)])) _
    refine st102 _ ?_
    show Steps p.tables e below (T102.setTop (mkF m 9 #[.val (.ref r0), .val (.long q1), .second, .unset, .unset] [(.long (own_r4 w2 q1)), (.ref r0)])) _
    rw [← hv1]
    refine st103 _ ?_
    show Steps p.tables e below (T103.setTop (mkF m 12 #[.val (.ref r0), .val (.long q1), .second, .unset, .unset] [])) _
    refine XS.lloadN X103.here hx rfl (hb hby d3_12) rfl ?_
    show Steps p.tables e below (T103.setTop (mkF m 13 #[.val (.ref r0), .val (.long q1), .second, .unset, .unset] [(.long q1)])) _
    refine XS.aloadN X103.here hx rfl (hb hby d3_13) rfl rfl ?_
    show Steps p.tables e below (T103.setTop (mkF m 14 #[.val (.ref r0), .val (.long q1), .second, .unset, .unset] [(.ref r0), (.long q1)])) _
    refine st111 _ ?_
    show Steps p.tables e below (T111.setTop (mkF m 17 #[.val (.ref r0), .val (.long q1), .second, .unset, .unset] [(.long w4), (.long q1)])) _
    refine XS.ladd X111.here hx rfl (hb hby d3_17) rfl ?_
    show Steps p.tables e below (T111.setTop (mkF m 18 #[.val (.ref r0), .val (.long q1), .second, .unset, .unset] [(.long (q1 + w4))])) _
    rw [← hv2]
    show Steps p.tables e below (T111.setTop (mkF m 18 #[.val (.ref r0), .val (.long q1), .second, .unset, .unset] [(.long v2)])) _
    refine XS.lstoreN X111.here hx rfl (hb hby d3_18) rfl (l' := #[.val (.ref r0), .val (.long q1), .second, .val (.long v2), .second]) rfl ?_
    show Steps p.tables e below (T111.setTop (mkF m 19 #[.val (.ref r0), .val (.long q1), .second, .val (.long v2), .second] [])) _
    refine XS.lloadN X111.here hx rfl (hb hby d3_19) rfl ?_
    show Steps p.tables e below (T111.setTop (mkF m 20 #[.val (.ref r0), .val (.long q1), .second, .val (.long v2), .second] [(.long v2)])) _
    refine XS.aloadN X111.here hx rfl (hb hby d3_20) rfl rfl ?_
    show Steps p.tables e below (T111.setTop (mkF m 21 #[.val (.ref r0), .val (.long q1), .second, .val (.long v2), .second] [(.ref r0), (.long v2)])) _
    refine st112 _ ?_
    show Steps p.tables e below (T112.setTop (mkF m 24 #[.val (.ref r0), .val (.long q1), .second, .val (.long v2), .second] [(.long w3), (.long v2)])) _
    refine XS.lcmp X112.here hx rfl (hb hby d3_24) rfl ?_
    exact kt
  refine own_go hgo114 ?_
  by_cases hc25_3 : v2 < w3
  · obtain ⟨T115, X115, e115, st115⟩ := getF X112 hx hZ hown (host := "") (Or.inl (hw _ (List.mem_of_getElem? (i := 12) rfl))) Via.refl e112 F106 (g := (mkF m 29 #[.val (.ref r0), .val (.long q1), .second, .val (.long v2), .second] [(.ref r0)])) rfl rfl (hb hby d3_29)
    obtain ⟨v5, hv5⟩ : ∃ z : Int64, z = (w3 + (1 : Int64)) := ⟨_, rfl⟩
    obtain ⟨v6, hv6⟩ : ∃ z : Int64, z = (v5 - q1) := ⟨_, rfl⟩
    obtain ⟨T116, h116, X116, e116, W116, st116⟩ := putF X115 hx hZ hown (host := "") (Or.inl (hw _ (List.mem_of_getElem? (i := 23) rfl))) Via.refl e115 F107 F105 (Or.inl (hw _ (List.mem_of_getElem? (i := 24) rfl))) (hw _ (List.mem_of_getElem? (i := 1) rfl)) (ty := .long) (by decide) rfl rfl (g := (mkF m 39 #[.val (.ref r0), .val (.long q1), .second, .val (.long v5), .second] [(.long v6), (.ref r0)])) rfl rfl (hb hby d3_39)
    have F117 := F104.other W116 (Or.inr (slot_ne (Or.inl (hw _ (List.mem_of_getElem? (i := 11) rfl))) (Or.inl (hw _ (List.mem_of_getElem? (i := 24) rfl))) (by decide) (t := .long) (t' := .long) (by decide) (by decide)))
    have F118 := F105.wr W116
    have F119 := F106.other W116 (Or.inr (slot_ne (Or.inl (hw _ (List.mem_of_getElem? (i := 13) rfl))) (Or.inl (hw _ (List.mem_of_getElem? (i := 24) rfl))) (by decide) (t := .long) (t' := .long) (by decide) (by decide)))
    have F120 := F107.same W116
    have Z121 : n0 ≤ h116.size := Nat.le_trans Z108 (Keep.of_wr W116).1
    have K122 : Keep h0 h116 [r0] := K109.wr W116 (Or.inl (List.mem_of_getElem? (i := 0) rfl))
    have N123 := Fr.snoc X116 N110 g_r0
    obtain ⟨T124, h124, X124, e124, W124, st124⟩ := putF X116 hx hZ hown (host := "") (Or.inl (hw _ (List.mem_of_getElem? (i := 12) rfl))) Via.refl e116 F119 F118 (Or.inl (hw _ (List.mem_of_getElem? (i := 13) rfl))) (hw _ (List.mem_of_getElem? (i := 1) rfl)) (ty := .long) (by decide) rfl rfl (g := (mkF m 44 #[.val (.ref r0), .val (.long q1), .second, .val (.long v5), .second] [(.long v5), (.ref r0)])) rfl rfl (hb hby d3_44)
    have F125 := F117.other W124 (Or.inr (slot_ne (Or.inl (hw _ (List.mem_of_getElem? (i := 11) rfl))) (Or.inl (hw _ (List.mem_of_getElem? (i := 13) rfl))) (by decide) (t := .long) (t' := .long) (by decide) (by decide)))
    have F126 := F118.wr W124
    have F127 := F119.same W124
    have F128 := F120.other W124 (Or.inr (slot_ne (Or.inl (hw _ (List.mem_of_getElem? (i := 24) rfl))) (Or.inl (hw _ (List.mem_of_getElem? (i := 13) rfl))) (by decide) (t := .long) (t' := .long) (by decide) (by decide)))
    have Z129 : n0 ≤ h124.size := Nat.le_trans Z121 (Keep.of_wr W124).1
    have K130 : Keep h0 h124 [r0] := K122.wr W124 (Or.inl (List.mem_of_getElem? (i := 0) rfl))
    have N131 := Fr.snoc X124 N123 g_r0
    have hgo132 : ∀ t, Steps p.tables e below (T124.setTop (mkF m 47 #[.val (.ref r0), .val (.long q1), .second, .val (.long v5), .second] [])) t → Steps p.tables e below (T112.setTop (mkF m 25 #[.val (.ref r0), .val (.long q1), .second, .val (.long v2), .second] [(.int (lcmpW v2 w3))])) t := by
      intro t kt
      show Steps p.tables e below (T112.setTop (mkF m 25 #[.val (.ref r0), .val (.long q1), .second, .val (.long v2), .second] [(.int (lcmpW v2 w3))])) _
      refine XS.ifNo X112.here hx rfl (hb hby d3_25) rfl ((if0 _ _).trans (tlt (own_lc_lt hc25_3)).2.1) ?_
      show Steps p.tables e below (T112.setTop (mkF m 28 #[.val (.ref r0), .val (.long q1), .second, .val (.long v2), .second] [])) _
      refine XS.aloadN X112.here hx rfl (hb hby d3_28) rfl rfl ?_
      show Steps p.tables e below (T112.setTop (mkF m 29 #[.val (.ref r0), .val (.long q1), .second, .val (.long v2), .second] [(.ref r0)])) _
      refine st115 _ ?_
      show Steps p.tables e below (T115.setTop (mkF m 32 #[.val (.ref r0), .val (.long q1), .second, .val (.long v2), .second] [(.long w3)])) _
      refine XS.lconst X115.here hx rfl (hb hby d3_32) ?_
      show Steps p.tables e below (T115.setTop (mkF m 33 #[.val (.ref r0), .val (.long q1), .second, .val (.long v2), .second] [(.long (1 : Int64)), (.long w3)])) _
      refine XS.ladd X115.here hx rfl (hb hby d3_33) rfl ?_
      show Steps p.tables e below (T115.setTop (mkF m 34 #[.val (.ref r0), .val (.long q1), .second, .val (.long v2), .second] [(.long (w3 + (1 : Int64)))])) _
      rw [← hv5]
      show Steps p.tables e below (T115.setTop (mkF m 34 #[.val (.ref r0), .val (.long q1), .second, .val (.long v2), .second] [(.long v5)])) _
      refine XS.lstoreN X115.here hx rfl (hb hby d3_34) rfl (l' := #[.val (.ref r0), .val (.long q1), .second, .val (.long v5), .second]) rfl ?_
      show Steps p.tables e below (T115.setTop (mkF m 35 #[.val (.ref r0), .val (.long q1), .second, .val (.long v5), .second] [])) _
      refine XS.aloadN X115.here hx rfl (hb hby d3_35) rfl rfl ?_
      show Steps p.tables e below (T115.setTop (mkF m 36 #[.val (.ref r0), .val (.long q1), .second, .val (.long v5), .second] [(.ref r0)])) _
      refine XS.lloadN X115.here hx rfl (hb hby d3_36) rfl ?_
      show Steps p.tables e below (T115.setTop (mkF m 37 #[.val (.ref r0), .val (.long q1), .second, .val (.long v5), .second] [(.long v5), (.ref r0)])) _
      refine XS.lloadN X115.here hx rfl (hb hby d3_37) rfl ?_
      show Steps p.tables e below (T115.setTop (mkF m 38 #[.val (.ref r0), .val (.long q1), .second, .val (.long v5), .second] [(.long q1), (.long v5), (.ref r0)])) _
      refine XS.lsub X115.here hx rfl (hb hby d3_38) rfl ?_
      show Steps p.tables e below (T115.setTop (mkF m 39 #[.val (.ref r0), .val (.long q1), .second, .val (.long v5), .second] [(.long (v5 - q1)), (.ref r0)])) _
      rw [← hv6]
      refine st116 _ ?_
      show Steps p.tables e below (T116.setTop (mkF m 42 #[.val (.ref r0), .val (.long q1), .second, .val (.long v5), .second] [])) _
      refine XS.aloadN X116.here hx rfl (hb hby d3_42) rfl rfl ?_
      show Steps p.tables e below (T116.setTop (mkF m 43 #[.val (.ref r0), .val (.long q1), .second, .val (.long v5), .second] [(.ref r0)])) _
      refine XS.lloadN X116.here hx rfl (hb hby d3_43) rfl ?_
      show Steps p.tables e below (T116.setTop (mkF m 44 #[.val (.ref r0), .val (.long q1), .second, .val (.long v5), .second] [(.long v5), (.ref r0)])) _
      refine st124 _ ?_
      exact kt
    refine own_go hgo132 ?_
    exact own_retV X124 hx Bd.returns Bd.notSynchronized (hb hby d3_47) (by decide) (by decide) (by rw [e124]; exact ⟨v5, v6, (by rfl), N131, K130, F126, (by subst hv6 hv5 hv2 hv1; exact F125), F127, F128⟩)
  · obtain ⟨T133, h133, X133, e133, W133, st133⟩ := putF X112 hx hZ hown (host := "") (Or.inl (hw _ (List.mem_of_getElem? (i := 12) rfl))) Via.refl e112 F106 F105 (Or.inl (hw _ (List.mem_of_getElem? (i := 13) rfl))) (hw _ (List.mem_of_getElem? (i := 1) rfl)) (ty := .long) (by decide) rfl rfl (g := (mkF m 44 #[.val (.ref r0), .val (.long q1), .second, .val (.long v2), .second] [(.long v2), (.ref r0)])) rfl rfl (hb hby d3_44)
    have F134 := F104.other W133 (Or.inr (slot_ne (Or.inl (hw _ (List.mem_of_getElem? (i := 11) rfl))) (Or.inl (hw _ (List.mem_of_getElem? (i := 13) rfl))) (by decide) (t := .long) (t' := .long) (by decide) (by decide)))
    have F135 := F105.wr W133
    have F136 := F106.same W133
    have F137 := F107.other W133 (Or.inr (slot_ne (Or.inl (hw _ (List.mem_of_getElem? (i := 24) rfl))) (Or.inl (hw _ (List.mem_of_getElem? (i := 13) rfl))) (by decide) (t := .long) (t' := .long) (by decide) (by decide)))
    have Z138 : n0 ≤ h133.size := Nat.le_trans Z108 (Keep.of_wr W133).1
    have K139 : Keep h0 h133 [r0] := K109.wr W133 (Or.inl (List.mem_of_getElem? (i := 0) rfl))
    have N140 := Fr.snoc X133 N110 g_r0
    have hgo141 : ∀ t, Steps p.tables e below (T133.setTop (mkF m 47 #[.val (.ref r0), .val (.long q1), .second, .val (.long v2), .second] [])) t → Steps p.tables e below (T112.setTop (mkF m 25 #[.val (.ref r0), .val (.long q1), .second, .val (.long v2), .second] [(.int (lcmpW v2 w3))])) t := by
      intro t kt
      show Steps p.tables e below (T112.setTop (mkF m 25 #[.val (.ref r0), .val (.long q1), .second, .val (.long v2), .second] [(.int (lcmpW v2 w3))])) _
      refine XS.ifYes X112.here hx rfl (pc0 := 25) (pc' := 42) rfl (hb hby d3_25) rfl ((if0 _ _).trans (flt (own_lc_nlt hc25_3)).2.1) (by decide) (by decide) ?_
      show Steps p.tables e below (T112.setTop (mkF m 42 #[.val (.ref r0), .val (.long q1), .second, .val (.long v2), .second] [])) _
      refine XS.aloadN X112.here hx rfl (hb hby d3_42) rfl rfl ?_
      show Steps p.tables e below (T112.setTop (mkF m 43 #[.val (.ref r0), .val (.long q1), .second, .val (.long v2), .second] [(.ref r0)])) _
      refine XS.lloadN X112.here hx rfl (hb hby d3_43) rfl ?_
      show Steps p.tables e below (T112.setTop (mkF m 44 #[.val (.ref r0), .val (.long q1), .second, .val (.long v2), .second] [(.long v2), (.ref r0)])) _
      refine st133 _ ?_
      exact kt
    refine own_go hgo141 ?_
    exact own_retV X133 hx Bd.returns Bd.notSynchronized (hb hby d3_47) (by decide) (by decide) (by rw [e133]; exact ⟨v2, w4, (by rfl), N140, K139, F135, (by subst hv2 hv1; exact F134), F136, F137⟩)
theorem d5_0 : decode prog_19_method_2_code 0 = .ok (.aload_n 0, 1) := by decide +kernel
theorem d5_1 : decode prog_19_method_2_code 1 = .ok (.invokespecial 1, 3) := by decide +kernel
theorem d5_4 : decode prog_19_method_2_code 4 = .ok (.aload_n 0, 1) := by decide +kernel
theorem d5_5 : decode prog_19_method_2_code 5 = .ok (.ldc2_w 9, 3) := by decide +kernel
theorem d5_8 : decode prog_19_method_2_code 8 = .ok (.putfield 11, 3) := by decide +kernel
theorem d5_11 : decode prog_19_method_2_code 11 = .ok (.aload_n 0, 1) := by decide +kernel
theorem d5_12 : decode prog_19_method_2_code 12 = .ok (.ldc2_w 9, 3) := by decide +kernel
theorem d5_15 : decode prog_19_method_2_code 15 = .ok (.putfield 17, 3) := by decide +kernel
theorem d5_18 : decode prog_19_method_2_code 18 = .ok (.aload_n 0, 1) := by decide +kernel
theorem d5_19 : decode prog_19_method_2_code 19 = .ok (.lload_n 1, 1) := by decide +kernel
theorem d5_20 : decode prog_19_method_2_code 20 = .ok (.putfield 11, 3) := by decide +kernel
theorem d5_23 : decode prog_19_method_2_code 23 = .ok (.aload_n 0, 1) := by decide +kernel
theorem d5_24 : decode prog_19_method_2_code 24 = .ok (.lload_n 3, 1) := by decide +kernel
theorem d5_25 : decode prog_19_method_2_code 25 = .ok (.putfield 17, 3) := by decide +kernel
theorem d5_28 : decode prog_19_method_2_code 28 = .ok (.aload_n 0, 1) := by decide +kernel
theorem d5_29 : decode prog_19_method_2_code 29 = .ok (.lload 5, 2) := by decide +kernel
theorem d5_31 : decode prog_19_method_2_code 31 = .ok (.putfield 20, 3) := by decide +kernel
theorem d5_34 : decode prog_19_method_2_code 34 = .ok (.return_, 1) := by decide +kernel
theorem ef_5 (m : MethodId) (r0 : Addr) (q1 : Int64) (q2 : Int64) (q3 : Int64) : entryFrame m #[(.ref r0), (.long q1), (.long q2), (.long q3)] 7 = mkF m 0 #[.val (.ref r0), .val (.long q1), .second, .val (.long q2), .second, .val (.long q3), .second] [] := by (first | (simp [entryFrame, mkF, argsToLocals, Value.category]; done) | rfl)
def Q5 (Z : State) (r0 : Addr) (q1 : Int64) (q2 : Int64) (q3 : Int64) (w4 : Int64) (w5 : Int64) (w6 : Int64) (h0 : Heap) (n0 : Nat) (v : Option Value) (h : Heap) (L : List Loc) : Prop := v = none ∧ Fr n0 L ∧ Keep h0 h [r0] ∧ Exa Z h r0 "com/example/millrace/millrace/queue/JournalClock" ∧ Fld Z h r0 "com/example/millrace/millrace/queue/JournalClock" "latestMillis" "J" (.long q1) ∧ Fld Z h r0 "com/example/millrace/millrace/queue/JournalClock" "millis" "J" (.long q2) ∧ Fld Z h r0 "com/example/millrace/millrace/queue/JournalClock" "leadMillis" "J" (.long q3)
set_option maxRecDepth 65536 in
set_option maxHeartbeats 40000000 in
theorem rm5 (l : Launch) (Z : State) (a0 : Array Value) (hw : ∀ d ∈ tables_1, d.before a0 Z = true) (ws : List Jvm.Cond) (r0 : Addr) (q1 : Int64) (q2 : Int64) (q3 : Int64) (w4 : Int64) (w5 : Int64) (w6 : Int64) (h0 : Heap) (n0 : Nat) (Z0 : n0 ≤ h0.size) (E_r0 : Exa Z h0 r0 "com/example/millrace/millrace/queue/JournalClock") (F_latestMillis_r0 : Fld Z h0 r0 "com/example/millrace/millrace/queue/JournalClock" "latestMillis" "J" (.long w4)) (F_millis_r0 : Fld Z h0 r0 "com/example/millrace/millrace/queue/JournalClock" "millis" "J" (.long w5)) (F_leadMillis_r0 : Fld Z h0 r0 "com/example/millrace/millrace/queue/JournalClock" "leadMillis" "J" (.long w6)) (g_r0 : n0 ≤ r0) :
    MetFree l (⟨"com/example/millrace/millrace/queue/JournalClock", "<init>", "(JJJ)V"⟩ : MethodName) (head1 (Jvm.Cond.code (⟨"com/example/millrace/millrace/queue/JournalClock", "<init>", "(JJJ)V"⟩ : MethodName) prog_19_method_2_code 7 none :: ws) ({ frames := 1, cells := 0, slots := 0, locals := 12 } : Room)) (fun a U => a = #[(.ref r0), (.long q1), (.long q2), (.long q3)] ∧ Z.Warmed39 U.vm ∧ U.heap = h0) (fun _ _ _ _ _ => True) (fun _ U o U' => ∃ v L, o = .returned v ∧ Q5 Z r0 q1 q2 q3 w4 w5 w6 h0 n0 v U'.heap L ∧ FrameEnd U o U' L ({ frames := 1, cells := 0, slots := 0, locals := 12 } : Room).cells ({ frames := 1, cells := 0, slots := 0, locals := 12 } : Room).slots) := by
  refine MetFree.of_bodySF (plainFor_of_name pn0) hisR ?_
  intro p e s m args below meth c s₁ Bd hml0 hP hK
  obtain ⟨rfl, hZ, hh⟩ := hP
  have hx := Bd.exec
  have hby := Bd.bytes
  have hml : c.maxLocals = 7 := hml0
  have hown : s.vm.findClass "com/example/millrace/millrace/queue/JournalClock" = some m.cls := findClass_of_methodNamed Bd.named
  have hnm := (name_of_methodNamed Bd.named Bd.method).1
  have X0 : Stand p l e ({ frames := 1, cells := 0, slots := 0, locals := 12 } : Room) s m #[(.ref r0), (.long q1), (.long q2), (.long q3)] below meth c s₁ [] 0 0 := Stand.of_body Bd
  have e0 : s₁.heap = h0 := by rw [← hh, Bd.state]; rfl
  have N0 := Fr.nil n0
  have K0 : Keep h0 h0 [r0] := Keep.refl h0 _
  show own_Go p e below s (Q5 Z r0 q1 q2 q3 w4 w5 w6 h0 n0) ({ frames := 1, cells := 0, slots := 0, locals := 12 } : Room).cells ({ frames := 1, cells := 0, slots := 0, locals := 12 } : Room).slots (s₁.setTop (entryFrame m #[(.ref r0), (.long q1), (.long q2), (.long q3)] 7))
  refine own_go (fun t k => castTop (ef_5 m r0 q1 q2 q3) k) ?_
  obtain ⟨T101, X101, e101, st101⟩ := initO X0 hx hZ hown (hw _ (List.mem_of_getElem? (i := 6) rfl)) (hw _ (List.mem_of_getElem? (i := 7) rfl)) (hw _ (List.mem_of_getElem? (i := 8) rfl)) e0 (g := (mkF m 1 #[.val (.ref r0), .val (.long q1), .second, .val (.long q2), .second, .val (.long q3), .second] [(.ref r0)])) rfl (by rw [hml]; rfl) rfl (hb hby d5_1) (by decide) (W := 0) (by show 2 * 0 + _ ≤ _; exact Nat.le_of_eq rfl) (by decide)
  obtain ⟨T102, h102, X102, e102, W102, st102⟩ := putF X101 hx hZ hown (host := "") (Or.inl (hw _ (List.mem_of_getElem? (i := 10) rfl))) Via.refl e101 F_latestMillis_r0 E_r0 (Or.inl (hw _ (List.mem_of_getElem? (i := 11) rfl))) (hw _ (List.mem_of_getElem? (i := 1) rfl)) (ty := .long) (by decide) rfl rfl (g := (mkF m 8 #[.val (.ref r0), .val (.long q1), .second, .val (.long q2), .second, .val (.long q3), .second] [(.long (-9223372036854775808 : Int64)), (.ref r0)])) rfl rfl (hb hby d5_8)
  have F103 := E_r0.wr W102
  have F104 := F_latestMillis_r0.same W102
  have F105 := F_millis_r0.other W102 (Or.inr (slot_ne (Or.inl (hw _ (List.mem_of_getElem? (i := 13) rfl))) (Or.inl (hw _ (List.mem_of_getElem? (i := 11) rfl))) (by decide) (t := .long) (t' := .long) (by decide) (by decide)))
  have F106 := F_leadMillis_r0.other W102 (Or.inr (slot_ne (Or.inl (hw _ (List.mem_of_getElem? (i := 24) rfl))) (Or.inl (hw _ (List.mem_of_getElem? (i := 11) rfl))) (by decide) (t := .long) (t' := .long) (by decide) (by decide)))
  have Z107 : n0 ≤ h102.size := Nat.le_trans Z0 (Keep.of_wr W102).1
  have K108 : Keep h0 h102 [r0] := K0.wr W102 (Or.inl (List.mem_of_getElem? (i := 0) rfl))
  have N109 := Fr.snoc X102 N0 g_r0
  obtain ⟨T110, h110, X110, e110, W110, st110⟩ := putF X102 hx hZ hown (host := "") (Or.inl (hw _ (List.mem_of_getElem? (i := 12) rfl))) Via.refl e102 F105 F103 (Or.inl (hw _ (List.mem_of_getElem? (i := 13) rfl))) (hw _ (List.mem_of_getElem? (i := 1) rfl)) (ty := .long) (by decide) rfl rfl (g := (mkF m 15 #[.val (.ref r0), .val (.long q1), .second, .val (.long q2), .second, .val (.long q3), .second] [(.long (-9223372036854775808 : Int64)), (.ref r0)])) rfl rfl (hb hby d5_15)
  have F111 := F103.wr W110
  have F112 := F104.other W110 (Or.inr (slot_ne (Or.inl (hw _ (List.mem_of_getElem? (i := 11) rfl))) (Or.inl (hw _ (List.mem_of_getElem? (i := 13) rfl))) (by decide) (t := .long) (t' := .long) (by decide) (by decide)))
  have F113 := F105.same W110
  have F114 := F106.other W110 (Or.inr (slot_ne (Or.inl (hw _ (List.mem_of_getElem? (i := 24) rfl))) (Or.inl (hw _ (List.mem_of_getElem? (i := 13) rfl))) (by decide) (t := .long) (t' := .long) (by decide) (by decide)))
  have Z115 : n0 ≤ h110.size := Nat.le_trans Z107 (Keep.of_wr W110).1
  have K116 : Keep h0 h110 [r0] := K108.wr W110 (Or.inl (List.mem_of_getElem? (i := 0) rfl))
  have N117 := Fr.snoc X110 N109 g_r0
  obtain ⟨T118, h118, X118, e118, W118, st118⟩ := putF X110 hx hZ hown (host := "") (Or.inl (hw _ (List.mem_of_getElem? (i := 10) rfl))) Via.refl e110 F112 F111 (Or.inl (hw _ (List.mem_of_getElem? (i := 11) rfl))) (hw _ (List.mem_of_getElem? (i := 1) rfl)) (ty := .long) (by decide) rfl rfl (g := (mkF m 20 #[.val (.ref r0), .val (.long q1), .second, .val (.long q2), .second, .val (.long q3), .second] [(.long q1), (.ref r0)])) rfl rfl (hb hby d5_20)
  have F119 := F111.wr W118
  have F120 := F112.same W118
  have F121 := F113.other W118 (Or.inr (slot_ne (Or.inl (hw _ (List.mem_of_getElem? (i := 13) rfl))) (Or.inl (hw _ (List.mem_of_getElem? (i := 11) rfl))) (by decide) (t := .long) (t' := .long) (by decide) (by decide)))
  have F122 := F114.other W118 (Or.inr (slot_ne (Or.inl (hw _ (List.mem_of_getElem? (i := 24) rfl))) (Or.inl (hw _ (List.mem_of_getElem? (i := 11) rfl))) (by decide) (t := .long) (t' := .long) (by decide) (by decide)))
  have Z123 : n0 ≤ h118.size := Nat.le_trans Z115 (Keep.of_wr W118).1
  have K124 : Keep h0 h118 [r0] := K116.wr W118 (Or.inl (List.mem_of_getElem? (i := 0) rfl))
  have N125 := Fr.snoc X118 N117 g_r0
  obtain ⟨T126, h126, X126, e126, W126, st126⟩ := putF X118 hx hZ hown (host := "") (Or.inl (hw _ (List.mem_of_getElem? (i := 12) rfl))) Via.refl e118 F121 F119 (Or.inl (hw _ (List.mem_of_getElem? (i := 13) rfl))) (hw _ (List.mem_of_getElem? (i := 1) rfl)) (ty := .long) (by decide) rfl rfl (g := (mkF m 25 #[.val (.ref r0), .val (.long q1), .second, .val (.long q2), .second, .val (.long q3), .second] [(.long q2), (.ref r0)])) rfl rfl (hb hby d5_25)
  have F127 := F119.wr W126
  have F128 := F120.other W126 (Or.inr (slot_ne (Or.inl (hw _ (List.mem_of_getElem? (i := 11) rfl))) (Or.inl (hw _ (List.mem_of_getElem? (i := 13) rfl))) (by decide) (t := .long) (t' := .long) (by decide) (by decide)))
  have F129 := F121.same W126
  have F130 := F122.other W126 (Or.inr (slot_ne (Or.inl (hw _ (List.mem_of_getElem? (i := 24) rfl))) (Or.inl (hw _ (List.mem_of_getElem? (i := 13) rfl))) (by decide) (t := .long) (t' := .long) (by decide) (by decide)))
  have Z131 : n0 ≤ h126.size := Nat.le_trans Z123 (Keep.of_wr W126).1
  have K132 : Keep h0 h126 [r0] := K124.wr W126 (Or.inl (List.mem_of_getElem? (i := 0) rfl))
  have N133 := Fr.snoc X126 N125 g_r0
  obtain ⟨T134, h134, X134, e134, W134, st134⟩ := putF X126 hx hZ hown (host := "") (Or.inl (hw _ (List.mem_of_getElem? (i := 23) rfl))) Via.refl e126 F130 F127 (Or.inl (hw _ (List.mem_of_getElem? (i := 24) rfl))) (hw _ (List.mem_of_getElem? (i := 1) rfl)) (ty := .long) (by decide) rfl rfl (g := (mkF m 31 #[.val (.ref r0), .val (.long q1), .second, .val (.long q2), .second, .val (.long q3), .second] [(.long q3), (.ref r0)])) rfl rfl (hb hby d5_31)
  have F135 := F127.wr W134
  have F136 := F128.other W134 (Or.inr (slot_ne (Or.inl (hw _ (List.mem_of_getElem? (i := 11) rfl))) (Or.inl (hw _ (List.mem_of_getElem? (i := 24) rfl))) (by decide) (t := .long) (t' := .long) (by decide) (by decide)))
  have F137 := F129.other W134 (Or.inr (slot_ne (Or.inl (hw _ (List.mem_of_getElem? (i := 13) rfl))) (Or.inl (hw _ (List.mem_of_getElem? (i := 24) rfl))) (by decide) (t := .long) (t' := .long) (by decide) (by decide)))
  have F138 := F130.same W134
  have Z139 : n0 ≤ h134.size := Nat.le_trans Z131 (Keep.of_wr W134).1
  have K140 : Keep h0 h134 [r0] := K132.wr W134 (Or.inl (List.mem_of_getElem? (i := 0) rfl))
  have N141 := Fr.snoc X134 N133 g_r0
  have hgo142 : ∀ t, Steps p.tables e below (T134.setTop (mkF m 34 #[.val (.ref r0), .val (.long q1), .second, .val (.long q2), .second, .val (.long q3), .second] [])) t → Steps p.tables e below (s₁.setTop (mkF m 0 #[.val (.ref r0), .val (.long q1), .second, .val (.long q2), .second, .val (.long q3), .second] [])) t := by
    intro t kt
    show Steps p.tables e below (s₁.setTop (mkF m 0 #[.val (.ref r0), .val (.long q1), .second, .val (.long q2), .second, .val (.long q3), .second] [])) _
    refine XS.aloadN X0.here hx rfl (hb hby d5_0) rfl rfl ?_
    show Steps p.tables e below (s₁.setTop (mkF m 1 #[.val (.ref r0), .val (.long q1), .second, .val (.long q2), .second, .val (.long q3), .second] [(.ref r0)])) _
    refine st101 _ ?_
    show Steps p.tables e below (T101.setTop (mkF m 4 #[.val (.ref r0), .val (.long q1), .second, .val (.long q2), .second, .val (.long q3), .second] [])) _
    refine XS.aloadN X101.here hx rfl (hb hby d5_4) rfl rfl ?_
    show Steps p.tables e below (T101.setTop (mkF m 5 #[.val (.ref r0), .val (.long q1), .second, .val (.long q2), .second, .val (.long q3), .second] [(.ref r0)])) _
    refine X101.ldc2Long hx hown (mvT hZ (hw _ (List.mem_of_getElem? (i := 9) rfl))) (g := (mkF m 5 #[.val (.ref r0), .val (.long q1), .second, .val (.long q2), .second, .val (.long q3), .second] [(.ref r0)])) rfl (hb hby d5_5) _ ?_
    show Steps p.tables e below (T101.setTop (mkF m 8 #[.val (.ref r0), .val (.long q1), .second, .val (.long q2), .second, .val (.long q3), .second] [(.long (-9223372036854775808 : Int64)), (.ref r0)])) _
    refine st102 _ ?_
    show Steps p.tables e below (T102.setTop (mkF m 11 #[.val (.ref r0), .val (.long q1), .second, .val (.long q2), .second, .val (.long q3), .second] [])) _
    refine XS.aloadN X102.here hx rfl (hb hby d5_11) rfl rfl ?_
    show Steps p.tables e below (T102.setTop (mkF m 12 #[.val (.ref r0), .val (.long q1), .second, .val (.long q2), .second, .val (.long q3), .second] [(.ref r0)])) _
    refine X102.ldc2Long hx hown (mvT hZ (hw _ (List.mem_of_getElem? (i := 9) rfl))) (g := (mkF m 12 #[.val (.ref r0), .val (.long q1), .second, .val (.long q2), .second, .val (.long q3), .second] [(.ref r0)])) rfl (hb hby d5_12) _ ?_
    show Steps p.tables e below (T102.setTop (mkF m 15 #[.val (.ref r0), .val (.long q1), .second, .val (.long q2), .second, .val (.long q3), .second] [(.long (-9223372036854775808 : Int64)), (.ref r0)])) _
    refine st110 _ ?_
    show Steps p.tables e below (T110.setTop (mkF m 18 #[.val (.ref r0), .val (.long q1), .second, .val (.long q2), .second, .val (.long q3), .second] [])) _
    refine XS.aloadN X110.here hx rfl (hb hby d5_18) rfl rfl ?_
    show Steps p.tables e below (T110.setTop (mkF m 19 #[.val (.ref r0), .val (.long q1), .second, .val (.long q2), .second, .val (.long q3), .second] [(.ref r0)])) _
    refine XS.lloadN X110.here hx rfl (hb hby d5_19) rfl ?_
    show Steps p.tables e below (T110.setTop (mkF m 20 #[.val (.ref r0), .val (.long q1), .second, .val (.long q2), .second, .val (.long q3), .second] [(.long q1), (.ref r0)])) _
    refine st118 _ ?_
    show Steps p.tables e below (T118.setTop (mkF m 23 #[.val (.ref r0), .val (.long q1), .second, .val (.long q2), .second, .val (.long q3), .second] [])) _
    refine XS.aloadN X118.here hx rfl (hb hby d5_23) rfl rfl ?_
    show Steps p.tables e below (T118.setTop (mkF m 24 #[.val (.ref r0), .val (.long q1), .second, .val (.long q2), .second, .val (.long q3), .second] [(.ref r0)])) _
    refine XS.lloadN X118.here hx rfl (hb hby d5_24) rfl ?_
    show Steps p.tables e below (T118.setTop (mkF m 25 #[.val (.ref r0), .val (.long q1), .second, .val (.long q2), .second, .val (.long q3), .second] [(.long q2), (.ref r0)])) _
    refine st126 _ ?_
    show Steps p.tables e below (T126.setTop (mkF m 28 #[.val (.ref r0), .val (.long q1), .second, .val (.long q2), .second, .val (.long q3), .second] [])) _
    refine XS.aloadN X126.here hx rfl (hb hby d5_28) rfl rfl ?_
    show Steps p.tables e below (T126.setTop (mkF m 29 #[.val (.ref r0), .val (.long q1), .second, .val (.long q2), .second, .val (.long q3), .second] [(.ref r0)])) _
    refine XS.lload X126.here hx rfl (hb hby d5_29) rfl ?_
    show Steps p.tables e below (T126.setTop (mkF m 31 #[.val (.ref r0), .val (.long q1), .second, .val (.long q2), .second, .val (.long q3), .second] [(.long q3), (.ref r0)])) _
    refine st134 _ ?_
    exact kt
  refine own_go hgo142 ?_
  exact own_retV X134 hx Bd.returns Bd.notSynchronized (hb hby d5_34) (by decide) (by decide) (by rw [e134]; exact ⟨(by rfl), N141, K140, F135, (by exact F136), (by exact F137), (by exact F138)⟩)
theorem d6_0 : decode prog_19_method_4_code 0 = .ok (.aload_n 0, 1) := by decide +kernel
theorem d6_1 : decode prog_19_method_4_code 1 = .ok (.aload_n 1, 1) := by decide +kernel
theorem d6_2 : decode prog_19_method_4_code 2 = .ok (.getfield 11, 3) := by decide +kernel
theorem d6_5 : decode prog_19_method_4_code 5 = .ok (.putfield 11, 3) := by decide +kernel
theorem d6_8 : decode prog_19_method_4_code 8 = .ok (.aload_n 0, 1) := by decide +kernel
theorem d6_9 : decode prog_19_method_4_code 9 = .ok (.aload_n 1, 1) := by decide +kernel
theorem d6_10 : decode prog_19_method_4_code 10 = .ok (.getfield 17, 3) := by decide +kernel
theorem d6_13 : decode prog_19_method_4_code 13 = .ok (.putfield 17, 3) := by decide +kernel
theorem d6_16 : decode prog_19_method_4_code 16 = .ok (.aload_n 0, 1) := by decide +kernel
theorem d6_17 : decode prog_19_method_4_code 17 = .ok (.aload_n 1, 1) := by decide +kernel
theorem d6_18 : decode prog_19_method_4_code 18 = .ok (.getfield 20, 3) := by decide +kernel
theorem d6_21 : decode prog_19_method_4_code 21 = .ok (.putfield 20, 3) := by decide +kernel
theorem d6_24 : decode prog_19_method_4_code 24 = .ok (.return_, 1) := by decide +kernel
theorem ef_6 (m : MethodId) (r0 : Addr) (r1 : Addr) : entryFrame m #[(.ref r0), (.ref r1)] 2 = mkF m 0 #[.val (.ref r0), .val (.ref r1)] [] := by (first | (simp [entryFrame, mkF, argsToLocals, Value.category]; done) | rfl)
def Q6 (Z : State) (r0 : Addr) (r1 : Addr) (w2 : Int64) (w3 : Int64) (w4 : Int64) (w5 : Int64) (w6 : Int64) (w7 : Int64) (h0 : Heap) (n0 : Nat) (v : Option Value) (h : Heap) (L : List Loc) : Prop := v = none ∧ Fr n0 L ∧ Keep h0 h [r0] ∧ Exa Z h r0 "com/example/millrace/millrace/queue/JournalClock" ∧ Fld Z h r0 "com/example/millrace/millrace/queue/JournalClock" "latestMillis" "J" (.long w2) ∧ Fld Z h r0 "com/example/millrace/millrace/queue/JournalClock" "millis" "J" (.long w6) ∧ Fld Z h r0 "com/example/millrace/millrace/queue/JournalClock" "leadMillis" "J" (.long w7)
set_option maxRecDepth 65536 in
set_option maxHeartbeats 40000000 in
theorem rm6 (l : Launch) (Z : State) (a0 : Array Value) (hw : ∀ d ∈ tables_1, d.before a0 Z = true) (ws : List Jvm.Cond) (r0 : Addr) (r1 : Addr) (w2 : Int64) (w3 : Int64) (w4 : Int64) (w5 : Int64) (w6 : Int64) (w7 : Int64) (h0 : Heap) (n0 : Nat) (Z0 : n0 ≤ h0.size) (F_latestMillis_r1 : Fld Z h0 r1 "com/example/millrace/millrace/queue/JournalClock" "latestMillis" "J" (.long w2)) (E_r0 : Exa Z h0 r0 "com/example/millrace/millrace/queue/JournalClock") (F_latestMillis_r0 : Fld Z h0 r0 "com/example/millrace/millrace/queue/JournalClock" "latestMillis" "J" (.long w3)) (F_millis_r0 : Fld Z h0 r0 "com/example/millrace/millrace/queue/JournalClock" "millis" "J" (.long w4)) (F_leadMillis_r0 : Fld Z h0 r0 "com/example/millrace/millrace/queue/JournalClock" "leadMillis" "J" (.long w5)) (hne_r1_r0 : r1 ≠ r0) (g_r0 : n0 ≤ r0) (F_millis_r1 : Fld Z h0 r1 "com/example/millrace/millrace/queue/JournalClock" "millis" "J" (.long w6)) (F_leadMillis_r1 : Fld Z h0 r1 "com/example/millrace/millrace/queue/JournalClock" "leadMillis" "J" (.long w7)) :
    MetFree l (⟨"com/example/millrace/millrace/queue/JournalClock", "setTo", "(Lcom/example/millrace/millrace/queue/JournalClock;)V"⟩ : MethodName) (head1 (Jvm.Cond.code (⟨"com/example/millrace/millrace/queue/JournalClock", "setTo", "(Lcom/example/millrace/millrace/queue/JournalClock;)V"⟩ : MethodName) prog_19_method_4_code 2 none :: ws) ({ frames := 0, cells := 0, slots := 0, locals := 0 } : Room)) (fun a U => a = #[(.ref r0), (.ref r1)] ∧ Z.Warmed39 U.vm ∧ U.heap = h0) (fun _ _ _ _ _ => True) (fun _ U o U' => ∃ v L, o = .returned v ∧ Q6 Z r0 r1 w2 w3 w4 w5 w6 w7 h0 n0 v U'.heap L ∧ FrameEnd U o U' L ({ frames := 0, cells := 0, slots := 0, locals := 0 } : Room).cells ({ frames := 0, cells := 0, slots := 0, locals := 0 } : Room).slots) := by
  refine MetFree.of_bodySF (plainFor_of_name pn0) hisR ?_
  intro p e s m args below meth c s₁ Bd hml0 hP hK
  obtain ⟨rfl, hZ, hh⟩ := hP
  have hx := Bd.exec
  have hby := Bd.bytes
  have hml : c.maxLocals = 2 := hml0
  have hown : s.vm.findClass "com/example/millrace/millrace/queue/JournalClock" = some m.cls := findClass_of_methodNamed Bd.named
  have hnm := (name_of_methodNamed Bd.named Bd.method).1
  have X0 : Stand p l e ({ frames := 0, cells := 0, slots := 0, locals := 0 } : Room) s m #[(.ref r0), (.ref r1)] below meth c s₁ [] 0 0 := Stand.of_body Bd
  have e0 : s₁.heap = h0 := by rw [← hh, Bd.state]; rfl
  have N0 := Fr.nil n0
  have K0 : Keep h0 h0 [r0] := Keep.refl h0 _
  show own_Go p e below s (Q6 Z r0 r1 w2 w3 w4 w5 w6 w7 h0 n0) ({ frames := 0, cells := 0, slots := 0, locals := 0 } : Room).cells ({ frames := 0, cells := 0, slots := 0, locals := 0 } : Room).slots (s₁.setTop (entryFrame m #[(.ref r0), (.ref r1)] 2))
  refine own_go (fun t k => castTop (ef_6 m r0 r1) k) ?_
  obtain ⟨T101, X101, e101, st101⟩ := getF X0 hx hZ hown (host := "") (Or.inl (hw _ (List.mem_of_getElem? (i := 10) rfl))) Via.refl e0 F_latestMillis_r1 (g := (mkF m 2 #[.val (.ref r0), .val (.ref r1)] [(.ref r1), (.ref r0)])) rfl rfl (hb hby d6_2)
  obtain ⟨T102, h102, X102, e102, W102, st102⟩ := putF X101 hx hZ hown (host := "") (Or.inl (hw _ (List.mem_of_getElem? (i := 10) rfl))) Via.refl e101 F_latestMillis_r0 E_r0 (Or.inl (hw _ (List.mem_of_getElem? (i := 11) rfl))) (hw _ (List.mem_of_getElem? (i := 1) rfl)) (ty := .long) (by decide) rfl rfl (g := (mkF m 5 #[.val (.ref r0), .val (.ref r1)] [(.long w2), (.ref r0)])) rfl rfl (hb hby d6_5)
  have F103 := F_latestMillis_r1.other W102 (Or.inl hne_r1_r0)
  have F104 := E_r0.wr W102
  have F105 := F_latestMillis_r0.same W102
  have F106 := F_millis_r0.other W102 (Or.inr (slot_ne (Or.inl (hw _ (List.mem_of_getElem? (i := 13) rfl))) (Or.inl (hw _ (List.mem_of_getElem? (i := 11) rfl))) (by decide) (t := .long) (t' := .long) (by decide) (by decide)))
  have F107 := F_leadMillis_r0.other W102 (Or.inr (slot_ne (Or.inl (hw _ (List.mem_of_getElem? (i := 24) rfl))) (Or.inl (hw _ (List.mem_of_getElem? (i := 11) rfl))) (by decide) (t := .long) (t' := .long) (by decide) (by decide)))
  have F108 := F_millis_r1.other W102 (Or.inl hne_r1_r0)
  have F109 := F_leadMillis_r1.other W102 (Or.inl hne_r1_r0)
  have Z110 : n0 ≤ h102.size := Nat.le_trans Z0 (Keep.of_wr W102).1
  have K111 : Keep h0 h102 [r0] := K0.wr W102 (Or.inl (List.mem_of_getElem? (i := 0) rfl))
  have N112 := Fr.snoc X102 N0 g_r0
  obtain ⟨T113, X113, e113, st113⟩ := getF X102 hx hZ hown (host := "") (Or.inl (hw _ (List.mem_of_getElem? (i := 12) rfl))) Via.refl e102 F108 (g := (mkF m 10 #[.val (.ref r0), .val (.ref r1)] [(.ref r1), (.ref r0)])) rfl rfl (hb hby d6_10)
  obtain ⟨T114, h114, X114, e114, W114, st114⟩ := putF X113 hx hZ hown (host := "") (Or.inl (hw _ (List.mem_of_getElem? (i := 12) rfl))) Via.refl e113 F106 F104 (Or.inl (hw _ (List.mem_of_getElem? (i := 13) rfl))) (hw _ (List.mem_of_getElem? (i := 1) rfl)) (ty := .long) (by decide) rfl rfl (g := (mkF m 13 #[.val (.ref r0), .val (.ref r1)] [(.long w6), (.ref r0)])) rfl rfl (hb hby d6_13)
  have F115 := F103.other W114 (Or.inl hne_r1_r0)
  have F116 := F104.wr W114
  have F117 := F105.other W114 (Or.inr (slot_ne (Or.inl (hw _ (List.mem_of_getElem? (i := 11) rfl))) (Or.inl (hw _ (List.mem_of_getElem? (i := 13) rfl))) (by decide) (t := .long) (t' := .long) (by decide) (by decide)))
  have F118 := F106.same W114
  have F119 := F107.other W114 (Or.inr (slot_ne (Or.inl (hw _ (List.mem_of_getElem? (i := 24) rfl))) (Or.inl (hw _ (List.mem_of_getElem? (i := 13) rfl))) (by decide) (t := .long) (t' := .long) (by decide) (by decide)))
  have F120 := F108.other W114 (Or.inl hne_r1_r0)
  have F121 := F109.other W114 (Or.inl hne_r1_r0)
  have Z122 : n0 ≤ h114.size := Nat.le_trans Z110 (Keep.of_wr W114).1
  have K123 : Keep h0 h114 [r0] := K111.wr W114 (Or.inl (List.mem_of_getElem? (i := 0) rfl))
  have N124 := Fr.snoc X114 N112 g_r0
  obtain ⟨T125, X125, e125, st125⟩ := getF X114 hx hZ hown (host := "") (Or.inl (hw _ (List.mem_of_getElem? (i := 23) rfl))) Via.refl e114 F121 (g := (mkF m 18 #[.val (.ref r0), .val (.ref r1)] [(.ref r1), (.ref r0)])) rfl rfl (hb hby d6_18)
  obtain ⟨T126, h126, X126, e126, W126, st126⟩ := putF X125 hx hZ hown (host := "") (Or.inl (hw _ (List.mem_of_getElem? (i := 23) rfl))) Via.refl e125 F119 F116 (Or.inl (hw _ (List.mem_of_getElem? (i := 24) rfl))) (hw _ (List.mem_of_getElem? (i := 1) rfl)) (ty := .long) (by decide) rfl rfl (g := (mkF m 21 #[.val (.ref r0), .val (.ref r1)] [(.long w7), (.ref r0)])) rfl rfl (hb hby d6_21)
  have F127 := F115.other W126 (Or.inl hne_r1_r0)
  have F128 := F116.wr W126
  have F129 := F117.other W126 (Or.inr (slot_ne (Or.inl (hw _ (List.mem_of_getElem? (i := 11) rfl))) (Or.inl (hw _ (List.mem_of_getElem? (i := 24) rfl))) (by decide) (t := .long) (t' := .long) (by decide) (by decide)))
  have F130 := F118.other W126 (Or.inr (slot_ne (Or.inl (hw _ (List.mem_of_getElem? (i := 13) rfl))) (Or.inl (hw _ (List.mem_of_getElem? (i := 24) rfl))) (by decide) (t := .long) (t' := .long) (by decide) (by decide)))
  have F131 := F119.same W126
  have F132 := F120.other W126 (Or.inl hne_r1_r0)
  have F133 := F121.other W126 (Or.inl hne_r1_r0)
  have Z134 : n0 ≤ h126.size := Nat.le_trans Z122 (Keep.of_wr W126).1
  have K135 : Keep h0 h126 [r0] := K123.wr W126 (Or.inl (List.mem_of_getElem? (i := 0) rfl))
  have N136 := Fr.snoc X126 N124 g_r0
  have hgo137 : ∀ t, Steps p.tables e below (T126.setTop (mkF m 24 #[.val (.ref r0), .val (.ref r1)] [])) t → Steps p.tables e below (s₁.setTop (mkF m 0 #[.val (.ref r0), .val (.ref r1)] [])) t := by
    intro t kt
    show Steps p.tables e below (s₁.setTop (mkF m 0 #[.val (.ref r0), .val (.ref r1)] [])) _
    refine XS.aloadN X0.here hx rfl (hb hby d6_0) rfl rfl ?_
    show Steps p.tables e below (s₁.setTop (mkF m 1 #[.val (.ref r0), .val (.ref r1)] [(.ref r0)])) _
    refine XS.aloadN X0.here hx rfl (hb hby d6_1) rfl rfl ?_
    show Steps p.tables e below (s₁.setTop (mkF m 2 #[.val (.ref r0), .val (.ref r1)] [(.ref r1), (.ref r0)])) _
    refine st101 _ ?_
    show Steps p.tables e below (T101.setTop (mkF m 5 #[.val (.ref r0), .val (.ref r1)] [(.long w2), (.ref r0)])) _
    refine st102 _ ?_
    show Steps p.tables e below (T102.setTop (mkF m 8 #[.val (.ref r0), .val (.ref r1)] [])) _
    refine XS.aloadN X102.here hx rfl (hb hby d6_8) rfl rfl ?_
    show Steps p.tables e below (T102.setTop (mkF m 9 #[.val (.ref r0), .val (.ref r1)] [(.ref r0)])) _
    refine XS.aloadN X102.here hx rfl (hb hby d6_9) rfl rfl ?_
    show Steps p.tables e below (T102.setTop (mkF m 10 #[.val (.ref r0), .val (.ref r1)] [(.ref r1), (.ref r0)])) _
    refine st113 _ ?_
    show Steps p.tables e below (T113.setTop (mkF m 13 #[.val (.ref r0), .val (.ref r1)] [(.long w6), (.ref r0)])) _
    refine st114 _ ?_
    show Steps p.tables e below (T114.setTop (mkF m 16 #[.val (.ref r0), .val (.ref r1)] [])) _
    refine XS.aloadN X114.here hx rfl (hb hby d6_16) rfl rfl ?_
    show Steps p.tables e below (T114.setTop (mkF m 17 #[.val (.ref r0), .val (.ref r1)] [(.ref r0)])) _
    refine XS.aloadN X114.here hx rfl (hb hby d6_17) rfl rfl ?_
    show Steps p.tables e below (T114.setTop (mkF m 18 #[.val (.ref r0), .val (.ref r1)] [(.ref r1), (.ref r0)])) _
    refine st125 _ ?_
    show Steps p.tables e below (T125.setTop (mkF m 21 #[.val (.ref r0), .val (.ref r1)] [(.long w7), (.ref r0)])) _
    refine st126 _ ?_
    exact kt
  refine own_go hgo137 ?_
  exact own_retV X126 hx Bd.returns Bd.notSynchronized (hb hby d6_24) (by decide) (by decide) (by rw [e126]; exact ⟨(by rfl), N136, K135, F128, (by exact F129), (by exact F130), (by exact F131)⟩)
theorem d7_0 : decode prog_19_method_6_code 0 = .ok (.aload_n 0, 1) := by decide +kernel
theorem d7_1 : decode prog_19_method_6_code 1 = .ok (.getfield 11, 3) := by decide +kernel
theorem d7_4 : decode prog_19_method_6_code 4 = .ok (.lreturn, 1) := by decide +kernel
theorem ef_7 (m : MethodId) (r0 : Addr) : entryFrame m #[(.ref r0)] 1 = mkF m 0 #[.val (.ref r0)] [] := by (first | (simp [entryFrame, mkF, argsToLocals, Value.category]; done) | rfl)
def Q7 (Z : State) (r0 : Addr) (w1 : Int64) (h0 : Heap) (n0 : Nat) (v : Option Value) (h : Heap) (L : List Loc) : Prop := v = some (.long w1) ∧ Fr n0 L ∧ h = h0
set_option maxRecDepth 65536 in
set_option maxHeartbeats 40000000 in
theorem rm7 (l : Launch) (Z : State) (a0 : Array Value) (hw : ∀ d ∈ tables_1, d.before a0 Z = true) (ws : List Jvm.Cond) (r0 : Addr) (w1 : Int64) (h0 : Heap) (n0 : Nat) (Z0 : n0 ≤ h0.size) (F_latestMillis_r0 : Fld Z h0 r0 "com/example/millrace/millrace/queue/JournalClock" "latestMillis" "J" (.long w1)) :
    MetFree l (⟨"com/example/millrace/millrace/queue/JournalClock", "latestMillis", "()J"⟩ : MethodName) (head1 (Jvm.Cond.code (⟨"com/example/millrace/millrace/queue/JournalClock", "latestMillis", "()J"⟩ : MethodName) prog_19_method_6_code 1 (some .long) :: ws) ({ frames := 0, cells := 0, slots := 0, locals := 0 } : Room)) (fun a U => a = #[(.ref r0)] ∧ Z.Warmed39 U.vm ∧ U.heap = h0) (fun _ _ _ _ _ => True) (fun _ U o U' => ∃ v L, o = .returned v ∧ Q7 Z r0 w1 h0 n0 v U'.heap L ∧ FrameEnd U o U' L ({ frames := 0, cells := 0, slots := 0, locals := 0 } : Room).cells ({ frames := 0, cells := 0, slots := 0, locals := 0 } : Room).slots) := by
  refine MetFree.of_bodySF (plainFor_of_name pn0) hisR ?_
  intro p e s m args below meth c s₁ Bd hml0 hP hK
  obtain ⟨rfl, hZ, hh⟩ := hP
  have hx := Bd.exec
  have hby := Bd.bytes
  have hml : c.maxLocals = 1 := hml0
  have hown : s.vm.findClass "com/example/millrace/millrace/queue/JournalClock" = some m.cls := findClass_of_methodNamed Bd.named
  have hnm := (name_of_methodNamed Bd.named Bd.method).1
  have X0 : Stand p l e ({ frames := 0, cells := 0, slots := 0, locals := 0 } : Room) s m #[(.ref r0)] below meth c s₁ [] 0 0 := Stand.of_body Bd
  have e0 : s₁.heap = h0 := by rw [← hh, Bd.state]; rfl
  have N0 := Fr.nil n0
  have K0 : Keep h0 h0 [] := Keep.refl h0 _
  show own_Go p e below s (Q7 Z r0 w1 h0 n0) ({ frames := 0, cells := 0, slots := 0, locals := 0 } : Room).cells ({ frames := 0, cells := 0, slots := 0, locals := 0 } : Room).slots (s₁.setTop (entryFrame m #[(.ref r0)] 1))
  refine own_go (fun t k => castTop (ef_7 m r0) k) ?_
  obtain ⟨T101, X101, e101, st101⟩ := getF X0 hx hZ hown (host := "") (Or.inl (hw _ (List.mem_of_getElem? (i := 10) rfl))) Via.refl e0 F_latestMillis_r0 (g := (mkF m 1 #[.val (.ref r0)] [(.ref r0)])) rfl rfl (hb hby d7_1)
  have hgo102 : ∀ t, Steps p.tables e below (T101.setTop (mkF m 4 #[.val (.ref r0)] [(.long w1)])) t → Steps p.tables e below (s₁.setTop (mkF m 0 #[.val (.ref r0)] [])) t := by
    intro t kt
    show Steps p.tables e below (s₁.setTop (mkF m 0 #[.val (.ref r0)] [])) _
    refine XS.aloadN X0.here hx rfl (hb hby d7_0) rfl rfl ?_
    show Steps p.tables e below (s₁.setTop (mkF m 1 #[.val (.ref r0)] [(.ref r0)])) _
    refine st101 _ ?_
    exact kt
  refine own_go hgo102 ?_
  exact own_retJ X101 hx Bd.returns Bd.notSynchronized (hb hby d7_4) (by decide) (by decide) (by rw [e101]; exact ⟨(by rfl), N0, rfl⟩)
theorem d8_0 : decode prog_19_method_7_code 0 = .ok (.aload_n 0, 1) := by decide +kernel
theorem d8_1 : decode prog_19_method_7_code 1 = .ok (.getfield 17, 3) := by decide +kernel
theorem d8_4 : decode prog_19_method_7_code 4 = .ok (.lreturn, 1) := by decide +kernel
theorem ef_8 (m : MethodId) (r0 : Addr) : entryFrame m #[(.ref r0)] 1 = mkF m 0 #[.val (.ref r0)] [] := by (first | (simp [entryFrame, mkF, argsToLocals, Value.category]; done) | rfl)
def Q8 (Z : State) (r0 : Addr) (w1 : Int64) (h0 : Heap) (n0 : Nat) (v : Option Value) (h : Heap) (L : List Loc) : Prop := v = some (.long w1) ∧ Fr n0 L ∧ h = h0
set_option maxRecDepth 65536 in
set_option maxHeartbeats 40000000 in
theorem rm8 (l : Launch) (Z : State) (a0 : Array Value) (hw : ∀ d ∈ tables_1, d.before a0 Z = true) (ws : List Jvm.Cond) (r0 : Addr) (w1 : Int64) (h0 : Heap) (n0 : Nat) (Z0 : n0 ≤ h0.size) (F_millis_r0 : Fld Z h0 r0 "com/example/millrace/millrace/queue/JournalClock" "millis" "J" (.long w1)) :
    MetFree l (⟨"com/example/millrace/millrace/queue/JournalClock", "millis", "()J"⟩ : MethodName) (head1 (Jvm.Cond.code (⟨"com/example/millrace/millrace/queue/JournalClock", "millis", "()J"⟩ : MethodName) prog_19_method_7_code 1 (some .long) :: ws) ({ frames := 0, cells := 0, slots := 0, locals := 0 } : Room)) (fun a U => a = #[(.ref r0)] ∧ Z.Warmed39 U.vm ∧ U.heap = h0) (fun _ _ _ _ _ => True) (fun _ U o U' => ∃ v L, o = .returned v ∧ Q8 Z r0 w1 h0 n0 v U'.heap L ∧ FrameEnd U o U' L ({ frames := 0, cells := 0, slots := 0, locals := 0 } : Room).cells ({ frames := 0, cells := 0, slots := 0, locals := 0 } : Room).slots) := by
  refine MetFree.of_bodySF (plainFor_of_name pn0) hisR ?_
  intro p e s m args below meth c s₁ Bd hml0 hP hK
  obtain ⟨rfl, hZ, hh⟩ := hP
  have hx := Bd.exec
  have hby := Bd.bytes
  have hml : c.maxLocals = 1 := hml0
  have hown : s.vm.findClass "com/example/millrace/millrace/queue/JournalClock" = some m.cls := findClass_of_methodNamed Bd.named
  have hnm := (name_of_methodNamed Bd.named Bd.method).1
  have X0 : Stand p l e ({ frames := 0, cells := 0, slots := 0, locals := 0 } : Room) s m #[(.ref r0)] below meth c s₁ [] 0 0 := Stand.of_body Bd
  have e0 : s₁.heap = h0 := by rw [← hh, Bd.state]; rfl
  have N0 := Fr.nil n0
  have K0 : Keep h0 h0 [] := Keep.refl h0 _
  show own_Go p e below s (Q8 Z r0 w1 h0 n0) ({ frames := 0, cells := 0, slots := 0, locals := 0 } : Room).cells ({ frames := 0, cells := 0, slots := 0, locals := 0 } : Room).slots (s₁.setTop (entryFrame m #[(.ref r0)] 1))
  refine own_go (fun t k => castTop (ef_8 m r0) k) ?_
  obtain ⟨T101, X101, e101, st101⟩ := getF X0 hx hZ hown (host := "") (Or.inl (hw _ (List.mem_of_getElem? (i := 12) rfl))) Via.refl e0 F_millis_r0 (g := (mkF m 1 #[.val (.ref r0)] [(.ref r0)])) rfl rfl (hb hby d8_1)
  have hgo102 : ∀ t, Steps p.tables e below (T101.setTop (mkF m 4 #[.val (.ref r0)] [(.long w1)])) t → Steps p.tables e below (s₁.setTop (mkF m 0 #[.val (.ref r0)] [])) t := by
    intro t kt
    show Steps p.tables e below (s₁.setTop (mkF m 0 #[.val (.ref r0)] [])) _
    refine XS.aloadN X0.here hx rfl (hb hby d8_0) rfl rfl ?_
    show Steps p.tables e below (s₁.setTop (mkF m 1 #[.val (.ref r0)] [(.ref r0)])) _
    refine st101 _ ?_
    exact kt
  refine own_go hgo102 ?_
  exact own_retJ X101 hx Bd.returns Bd.notSynchronized (hb hby d8_4) (by decide) (by decide) (by rw [e101]; exact ⟨(by rfl), N0, rfl⟩)
theorem d9_0 : decode prog_19_method_8_code 0 = .ok (.aload_n 0, 1) := by decide +kernel
theorem d9_1 : decode prog_19_method_8_code 1 = .ok (.getfield 20, 3) := by decide +kernel
theorem d9_4 : decode prog_19_method_8_code 4 = .ok (.lreturn, 1) := by decide +kernel
theorem ef_9 (m : MethodId) (r0 : Addr) : entryFrame m #[(.ref r0)] 1 = mkF m 0 #[.val (.ref r0)] [] := by (first | (simp [entryFrame, mkF, argsToLocals, Value.category]; done) | rfl)
def Q9 (Z : State) (r0 : Addr) (w1 : Int64) (h0 : Heap) (n0 : Nat) (v : Option Value) (h : Heap) (L : List Loc) : Prop := v = some (.long w1) ∧ Fr n0 L ∧ h = h0
set_option maxRecDepth 65536 in
set_option maxHeartbeats 40000000 in
theorem rm9 (l : Launch) (Z : State) (a0 : Array Value) (hw : ∀ d ∈ tables_1, d.before a0 Z = true) (ws : List Jvm.Cond) (r0 : Addr) (w1 : Int64) (h0 : Heap) (n0 : Nat) (Z0 : n0 ≤ h0.size) (F_leadMillis_r0 : Fld Z h0 r0 "com/example/millrace/millrace/queue/JournalClock" "leadMillis" "J" (.long w1)) :
    MetFree l (⟨"com/example/millrace/millrace/queue/JournalClock", "leadMillis", "()J"⟩ : MethodName) (head1 (Jvm.Cond.code (⟨"com/example/millrace/millrace/queue/JournalClock", "leadMillis", "()J"⟩ : MethodName) prog_19_method_8_code 1 (some .long) :: ws) ({ frames := 0, cells := 0, slots := 0, locals := 0 } : Room)) (fun a U => a = #[(.ref r0)] ∧ Z.Warmed39 U.vm ∧ U.heap = h0) (fun _ _ _ _ _ => True) (fun _ U o U' => ∃ v L, o = .returned v ∧ Q9 Z r0 w1 h0 n0 v U'.heap L ∧ FrameEnd U o U' L ({ frames := 0, cells := 0, slots := 0, locals := 0 } : Room).cells ({ frames := 0, cells := 0, slots := 0, locals := 0 } : Room).slots) := by
  refine MetFree.of_bodySF (plainFor_of_name pn0) hisR ?_
  intro p e s m args below meth c s₁ Bd hml0 hP hK
  obtain ⟨rfl, hZ, hh⟩ := hP
  have hx := Bd.exec
  have hby := Bd.bytes
  have hml : c.maxLocals = 1 := hml0
  have hown : s.vm.findClass "com/example/millrace/millrace/queue/JournalClock" = some m.cls := findClass_of_methodNamed Bd.named
  have hnm := (name_of_methodNamed Bd.named Bd.method).1
  have X0 : Stand p l e ({ frames := 0, cells := 0, slots := 0, locals := 0 } : Room) s m #[(.ref r0)] below meth c s₁ [] 0 0 := Stand.of_body Bd
  have e0 : s₁.heap = h0 := by rw [← hh, Bd.state]; rfl
  have N0 := Fr.nil n0
  have K0 : Keep h0 h0 [] := Keep.refl h0 _
  show own_Go p e below s (Q9 Z r0 w1 h0 n0) ({ frames := 0, cells := 0, slots := 0, locals := 0 } : Room).cells ({ frames := 0, cells := 0, slots := 0, locals := 0 } : Room).slots (s₁.setTop (entryFrame m #[(.ref r0)] 1))
  refine own_go (fun t k => castTop (ef_9 m r0) k) ?_
  obtain ⟨T101, X101, e101, st101⟩ := getF X0 hx hZ hown (host := "") (Or.inl (hw _ (List.mem_of_getElem? (i := 23) rfl))) Via.refl e0 F_leadMillis_r0 (g := (mkF m 1 #[.val (.ref r0)] [(.ref r0)])) rfl rfl (hb hby d9_1)
  have hgo102 : ∀ t, Steps p.tables e below (T101.setTop (mkF m 4 #[.val (.ref r0)] [(.long w1)])) t → Steps p.tables e below (s₁.setTop (mkF m 0 #[.val (.ref r0)] [])) t := by
    intro t kt
    show Steps p.tables e below (s₁.setTop (mkF m 0 #[.val (.ref r0)] [])) _
    refine XS.aloadN X0.here hx rfl (hb hby d9_0) rfl rfl ?_
    show Steps p.tables e below (s₁.setTop (mkF m 1 #[.val (.ref r0)] [(.ref r0)])) _
    refine st101 _ ?_
    exact kt
  refine own_go hgo102 ?_
  exact own_retJ X101 hx Bd.returns Bd.notSynchronized (hb hby d9_4) (by decide) (by decide) (by rw [e101]; exact ⟨(by rfl), N0, rfl⟩)
theorem pd2 : parseMethodDescriptor "()V" = some ⟨[], none⟩ := by decide +kernel
theorem pd3 : parseMethodDescriptor "(J)V" = some ⟨[.long], none⟩ := by decide +kernel
theorem pd4 : parseMethodDescriptor "(JJJ)V" = some ⟨[.long, .long, .long], none⟩ := by decide +kernel
theorem pd5 : parseMethodDescriptor "(Lcom/example/millrace/millrace/queue/JournalClock;)V" = some ⟨[(.object "com/example/millrace/millrace/queue/JournalClock")], none⟩ := by decide +kernel
theorem pd6 : parseMethodDescriptor "()J" = some ⟨[], some .long⟩ := by decide +kernel
theorem ef_0 (m : MethodId) (q0 : Int64) (q1 : Int64) (q2 : Int64) (q3 : Int64) (p4 : Int32) : entryFrame m #[(.long q0), (.long q1), (.long q2), (.long q3), (.int p4)] maxLocals = mkF m 0 #[.val (.long q0), .second, .val (.long q1), .second, .val (.long q2), .second, .val (.long q3), .second, .val (.int p4), .unset, .unset, .unset, .unset] [] := by (first | (simp [entryFrame, mkF, argsToLocals, Value.category, maxLocals]; done) | rfl)
set_option maxRecDepth 65536 in
theorem own_leaf0 {q0 q1 q2 q3 : Int64} {p4 v5 v6 v7 v12 : Int32} (hv5 : v5 = (if q2 = q2 then (1 : Int32) else (0 : Int32))) (hv6 : v6 = (if q1 = q1 then v5 else (0 : Int32))) (hv7 : v7 = (if q0 = q0 then v6 else (0 : Int32))) (hv12 : v12 = (if v7 = (0 : Int32) then (0 : Int32) else (1 : Int32))) (hc13_1 : (p4 &&& (1 : Int32)) = (0 : Int32)) : v12 = 1 := by simp_all
set_option maxRecDepth 65536 in
theorem own_leaf1 {q0 q1 q2 q3 : Int64} {p4 v16 v17 v18 v23 : Int32} (hv16 : v16 = (if q2 = q2 then (1 : Int32) else (0 : Int32))) (hv17 : v17 = (if q1 = q1 then v16 else (0 : Int32))) (hv18 : v18 = (if q0 = q0 then v17 else (0 : Int32))) (hv23 : v23 = (if v18 = (0 : Int32) then (0 : Int32) else (1 : Int32))) (hc13_1 : ¬ ((p4 &&& (1 : Int32)) = (0 : Int32))) : v23 = 1 := by simp_all
theorem pn7 : plainName "com/example/millrace/millrace/queue/JournalClockSetToPinLaw" = true := by first | (simp [plainName, overriddenIn]; done) | decide +kernel
def Q0 (Z : State) (q0 : Int64) (q1 : Int64) (q2 : Int64) (q3 : Int64) (p4 : Int32) (h0 : Heap) (n0 : Nat) (v : Option Value) (h : Heap) (L : List Loc) : Prop := v = some (.int 1) ∧ Fr n0 L
set_option maxRecDepth 65536 in
set_option maxHeartbeats 40000000 in
theorem rm0 (l : Launch) (Z : State) (a0 : Array Value) (hw : ∀ d ∈ tables_1, d.before a0 Z = true) (ws : List Jvm.Cond) (q0 : Int64) (q1 : Int64) (q2 : Int64) (q3 : Int64) (p4 : Int32) (h0 : Heap) (n0 : Nat) (Z0 : n0 ≤ h0.size) :
    MetFree l x (head1 (Jvm.Cond.code x code maxLocals ret :: ws) room_1) (fun a U => a = #[(.long q0), (.long q1), (.long q2), (.long q3), (.int p4)] ∧ Z.Warmed39 U.vm ∧ U.heap = h0) (fun _ _ _ _ _ => True) (fun _ U o U' => ∃ v L, o = .returned v ∧ Q0 Z q0 q1 q2 q3 p4 h0 n0 v U'.heap L ∧ FrameEnd U o U' L room_1.cells room_1.slots) := by
  refine MetFree.of_bodySF (plainFor_of_name pn7) hisR ?_
  intro p e s m args below meth c s₁ Bd hml0 hP hK
  obtain ⟨rfl, hZ, hh⟩ := hP
  have hx := Bd.exec
  have hby := Bd.bytes
  have hml : c.maxLocals = 13 := hml0
  have hown : s.vm.findClass "com/example/millrace/millrace/queue/JournalClockSetToPinLaw" = some m.cls := findClass_of_methodNamed Bd.named
  have hnm := (name_of_methodNamed Bd.named Bd.method).1
  have X0 : Stand p l e room_1 s m #[(.long q0), (.long q1), (.long q2), (.long q3), (.int p4)] below meth c s₁ [] 0 0 := Stand.of_body Bd
  have e0 : s₁.heap = h0 := by rw [← hh, Bd.state]; rfl
  have N0 := Fr.nil n0
  have K0 : Keep h0 h0 [] := Keep.refl h0 _
  show own_Go p e below s (Q0 Z q0 q1 q2 q3 p4 h0 n0) room_1.cells room_1.slots (s₁.setTop (entryFrame m #[(.long q0), (.long q1), (.long q2), (.long q3), (.int p4)] maxLocals))
  refine own_go (fun t k => castTop (ef_0 m q0 q1 q2 q3 p4) k) ?_
  obtain ⟨T101, h101, X101, e101, E101, A101, D101, -, st101⟩ := newO X0 hx hZ hown (hw _ (List.mem_of_getElem? (i := 0) rfl)) (hw _ (List.mem_of_getElem? (i := 1) rfl)) (hw _ (List.mem_of_getElem? (i := 2) rfl)) e0 (g := (mkF m 0 #[.val (.long q0), .second, .val (.long q1), .second, .val (.long q2), .second, .val (.long q3), .second, .val (.int p4), .unset, .unset, .unset, .unset] [])) rfl (hb hby at_0) (by decide) (by decide)
  obtain ⟨b101, g101⟩ : ∃ z, z = h0.size := ⟨_, rfl⟩
  rw [← g101] at A101 D101 st101
  have g_b101 : n0 ≤ b101 := Nat.le_trans Z0 (Nat.le_of_eq g101.symm)
  have sz_b101 : h0.size ≤ b101 := Nat.le_trans K0.1 (Nat.le_of_eq g101.symm)
  have Z102 : n0 ≤ h101.size := Nat.le_trans Z0 E101.1
  have K103 : Keep h0 h101 [] := K0.ext E101
  have F104 : Fld Z h101 b101 "com/example/millrace/millrace/queue/JournalClock" "latestMillis" "J" (.long (0 : Int64)) := D101 (Or.inl (hw _ (List.mem_of_getElem? (i := 11) rfl))) (ty := .long) (by decide)
  have F105 : Fld Z h101 b101 "com/example/millrace/millrace/queue/JournalClock" "millis" "J" (.long (0 : Int64)) := D101 (Or.inl (hw _ (List.mem_of_getElem? (i := 13) rfl))) (ty := .long) (by decide)
  have F106 : Fld Z h101 b101 "com/example/millrace/millrace/queue/JournalClock" "leadMillis" "J" (.long (0 : Int64)) := D101 (Or.inl (hw _ (List.mem_of_getElem? (i := 24) rfl))) (ty := .long) (by decide)
  obtain ⟨_, _, ⟨T107, L107, k107, n107⟩, -, X107, ⟨Lc107, hQ107, l107, y107, z107⟩, st107⟩ := X101.specialBack hx (y := (⟨"com/example/millrace/millrace/queue/JournalClock", "<init>", "()V"⟩ : MethodName)) rfl hown (mvT hZ (hw _ (List.mem_of_getElem? (i := 3) rfl))) (mvT hZ (hw _ (List.mem_of_getElem? (i := 4) rfl))) (mvT hZ (hw _ (List.mem_of_getElem? (i := 5) rfl))) (by decide) (backOf (W := 1) (rm1 l Z a0 hw [] b101 (0 : Int64) (0 : Int64) (0 : Int64) h101 n0 Z102 A101 F104 F105 F106 g_b101) hZ (hw _ (List.mem_of_getElem? (i := 5) rfl)) (hw _ (List.mem_of_getElem? (i := 2) rfl)) (by decide) (by decide)) (g := (mkF m 4 #[.val (.long q0), .second, .val (.long q1), .second, .val (.long q2), .second, .val (.long q3), .second, .val (.int p4), .unset, .unset, .unset, .unset] [(.ref b101), (.ref b101)])) rfl (by rw [hml]; rfl) (Steps.refl _) (a := b101) (argsL := []) (rest := [(.ref b101)]) (lenOf pd2 rfl) rfl (by show 2 * 0 + _ ≤ _; exact Nat.le_of_eq rfl) (hb hby at_4) (fun _ _ => ⟨rfl, e101, (by decide : 1 + 0 ≤ _), (by decide : 3 + 0 ≤ _)⟩)
  dsimp only [Pt.U, Pt.locs, Pt.cells, Pt.slots] at X107 l107 y107 z107 st107 hQ107
  subst l107 y107 z107
  obtain ⟨rfl, N107q, K107q, F107_0, F107_1, F107_2, F107_3⟩ := hQ107
  have F108 := A101.keep K107q
  have Z109 : n0 ≤ T107.heap.size := Nat.le_trans Z102 K107q.1
  have K110 : Keep h0 T107.heap [] := K103.trans K107q (allS (Or.inr sz_b101) all0)
  have N107 := Fr.app N0 N107q
  have hgo113 : ∀ t, Steps p.tables e below (T107.setTop (mkF m 13 #[.val (.long q0), .second, .val (.long q1), .second, .val (.long q2), .second, .val (.long q3), .second, .val (.int p4), .val (.ref b101), .unset, .unset, .unset] [(.int (p4 &&& (1 : Int32)))])) t → Steps p.tables e below (s₁.setTop (mkF m 0 #[.val (.long q0), .second, .val (.long q1), .second, .val (.long q2), .second, .val (.long q3), .second, .val (.int p4), .unset, .unset, .unset, .unset] [])) t := by
    intro t kt
    show Steps p.tables e below (s₁.setTop (mkF m 0 #[.val (.long q0), .second, .val (.long q1), .second, .val (.long q2), .second, .val (.long q3), .second, .val (.int p4), .unset, .unset, .unset, .unset] [])) _
    refine st101 _ ?_
    show Steps p.tables e below (T101.setTop (mkF m 3 #[.val (.long q0), .second, .val (.long q1), .second, .val (.long q2), .second, .val (.long q3), .second, .val (.int p4), .unset, .unset, .unset, .unset] [(.ref b101)])) _
    refine XS.dup X101.here hx rfl (hb hby at_3) rfl rfl ?_
    show Steps p.tables e below (T101.setTop (mkF m 4 #[.val (.long q0), .second, .val (.long q1), .second, .val (.long q2), .second, .val (.long q3), .second, .val (.int p4), .unset, .unset, .unset, .unset] [(.ref b101), (.ref b101)])) _
    refine st107.trans ?_
    show Steps p.tables e below (T107.setTop (mkF m 7 #[.val (.long q0), .second, .val (.long q1), .second, .val (.long q2), .second, .val (.long q3), .second, .val (.int p4), .unset, .unset, .unset, .unset] [(.ref b101)])) _
    refine XS.astore X107.here hx rfl (hb hby at_7) rfl rfl (l' := #[.val (.long q0), .second, .val (.long q1), .second, .val (.long q2), .second, .val (.long q3), .second, .val (.int p4), .val (.ref b101), .unset, .unset, .unset]) rfl ?_
    show Steps p.tables e below (T107.setTop (mkF m 9 #[.val (.long q0), .second, .val (.long q1), .second, .val (.long q2), .second, .val (.long q3), .second, .val (.int p4), .val (.ref b101), .unset, .unset, .unset] [])) _
    refine XS.iload X107.here hx rfl (hb hby at_9) rfl ?_
    show Steps p.tables e below (T107.setTop (mkF m 11 #[.val (.long q0), .second, .val (.long q1), .second, .val (.long q2), .second, .val (.long q3), .second, .val (.int p4), .val (.ref b101), .unset, .unset, .unset] [(.int p4)])) _
    refine XS.iconst X107.here hx rfl (hb hby at_11) ?_
    show Steps p.tables e below (T107.setTop (mkF m 12 #[.val (.long q0), .second, .val (.long q1), .second, .val (.long q2), .second, .val (.long q3), .second, .val (.int p4), .val (.ref b101), .unset, .unset, .unset] [(.int (1 : Int32)), (.int p4)])) _
    refine XS.iand X107.here hx rfl (hb hby at_12) rfl ?_
    exact kt
  refine own_go hgo113 ?_
  by_cases hc13_1 : (p4 &&& (1 : Int32)) = (0 : Int32)
  · obtain ⟨T114, h114, X114, e114, E114, A114, D114, -, st114⟩ := newO X107 hx hZ hown (hw _ (List.mem_of_getElem? (i := 0) rfl)) (hw _ (List.mem_of_getElem? (i := 1) rfl)) (hw _ (List.mem_of_getElem? (i := 2) rfl)) (rfl : T107.heap = T107.heap) (g := (mkF m 23 #[.val (.long q0), .second, .val (.long q1), .second, .val (.long q2), .second, .val (.long q3), .second, .val (.int p4), .val (.ref b101), .unset, .unset, .unset] [])) rfl (hb hby at_23) (by decide) (by decide)
    obtain ⟨b114, g114⟩ : ∃ z, z = T107.heap.size := ⟨_, rfl⟩
    rw [← g114] at A114 D114 st114
    have ne_b101_b114 : b101 ≠ b114 := Nat.ne_of_lt (Nat.lt_of_lt_of_le F107_0.lt (Nat.le_of_eq g114.symm))
    have g_b114 : n0 ≤ b114 := Nat.le_trans Z109 (Nat.le_of_eq g114.symm)
    have sz_b114 : h0.size ≤ b114 := Nat.le_trans K110.1 (Nat.le_of_eq g114.symm)
    have F115 := F107_0.ext E114
    have F116 := F107_1.ext E114
    have F117 := F107_2.ext E114
    have F118 := F107_3.ext E114
    have Z119 : n0 ≤ h114.size := Nat.le_trans Z109 E114.1
    have K120 : Keep h0 h114 [] := K110.ext E114
    have F121 : Fld Z h114 b114 "com/example/millrace/millrace/queue/JournalClock" "latestMillis" "J" (.long (0 : Int64)) := D114 (Or.inl (hw _ (List.mem_of_getElem? (i := 11) rfl))) (ty := .long) (by decide)
    have F122 : Fld Z h114 b114 "com/example/millrace/millrace/queue/JournalClock" "millis" "J" (.long (0 : Int64)) := D114 (Or.inl (hw _ (List.mem_of_getElem? (i := 13) rfl))) (ty := .long) (by decide)
    have F123 : Fld Z h114 b114 "com/example/millrace/millrace/queue/JournalClock" "leadMillis" "J" (.long (0 : Int64)) := D114 (Or.inl (hw _ (List.mem_of_getElem? (i := 24) rfl))) (ty := .long) (by decide)
    obtain ⟨_, _, ⟨T124, L124, k124, n124⟩, -, X124, ⟨Lc124, hQ124, l124, y124, z124⟩, st124⟩ := X114.specialBack hx (y := (⟨"com/example/millrace/millrace/queue/JournalClock", "<init>", "(JJJ)V"⟩ : MethodName)) rfl hown (mvT hZ (hw _ (List.mem_of_getElem? (i := 25) rfl))) (mvT hZ (hw _ (List.mem_of_getElem? (i := 26) rfl))) (mvT hZ (hw _ (List.mem_of_getElem? (i := 27) rfl))) (by decide) (backOf (W := 1) (rm5 l Z a0 hw [] b114 q0 q1 q2 (0 : Int64) (0 : Int64) (0 : Int64) h114 n0 Z119 A114 F121 F122 F123 g_b114) hZ (hw _ (List.mem_of_getElem? (i := 27) rfl)) (hw _ (List.mem_of_getElem? (i := 2) rfl)) (by decide) (by decide)) (g := (mkF m 31 #[.val (.long q0), .second, .val (.long q1), .second, .val (.long q2), .second, .val (.long q3), .second, .val (.int p4), .val (.ref b101), .unset, .unset, .unset] [(.long q2), (.long q1), (.long q0), (.ref b114), (.ref b114)])) rfl (by rw [hml]; rfl) (Steps.refl _) (a := b114) (argsL := [(.long q0), (.long q1), (.long q2)]) (rest := [(.ref b114)]) (lenOf pd4 rfl) rfl (by show 2 * 0 + _ ≤ _; exact Nat.le_of_eq rfl) (hb hby at_31) (fun _ _ => ⟨rfl, e114, (by decide : 2 + 0 ≤ _), (by decide : 6 + 0 ≤ _)⟩)
    dsimp only [Pt.U, Pt.locs, Pt.cells, Pt.slots] at X124 l124 y124 z124 st124 hQ124
    subst l124 y124 z124
    obtain ⟨rfl, N124q, K124q, F124_0, F124_1, F124_2, F124_3⟩ := hQ124
    have F125 := F115.keep K124q
    have F126 := F116.keep K124q (ninS ne_b101_b114 nin0)
    have F127 := F117.keep K124q (ninS ne_b101_b114 nin0)
    have F128 := F118.keep K124q (ninS ne_b101_b114 nin0)
    have F129 := A114.keep K124q
    have Z130 : n0 ≤ T124.heap.size := Nat.le_trans Z119 K124q.1
    have K131 : Keep h0 T124.heap [] := K120.trans K124q (allS (Or.inr sz_b114) all0)
    have N124 := Fr.app N107 N124q
    obtain ⟨cq132, kq132, q132a, q132b, q132c⟩ := isOf hZ (rfl : T124.heap = T124.heap) F125
    obtain ⟨_, _, ⟨T132, L132, k132, n132⟩, -, X132, ⟨Lc132, hQ132, l132, y132, z132⟩, st132⟩ := X124.virtualBack hx (y := (⟨"com/example/millrace/millrace/queue/JournalClock", "setTo", "(Lcom/example/millrace/millrace/queue/JournalClock;)V"⟩ : MethodName)) (z := (⟨"com/example/millrace/millrace/queue/JournalClock", "setTo", "(Lcom/example/millrace/millrace/queue/JournalClock;)V"⟩ : MethodName)) hown (mvT hZ (hw _ (List.mem_of_getElem? (i := 28) rfl))) (mvT hZ (hw _ (List.mem_of_getElem? (i := 29) rfl))) (notFace_of_selects (args := #[]) (mvT hZ (hw _ (List.mem_of_getElem? (i := 31) rfl)))) (mvT hZ (hw _ (List.mem_of_getElem? (i := 31) rfl))) (mvT hZ (hw _ (List.mem_of_getElem? (i := 30) rfl))) (by decide) (backOf (W := 0) (rm6 l Z a0 hw [] b101 b114 q0 (-9223372036854775808 : Int64) (-9223372036854775808 : Int64) (0 : Int64) q1 q2 (T124.heap) n0 Z130 F124_1 F125 F126 F127 F128 (Ne.symm ne_b101_b114) g_b101 F124_2 F124_3) hZ (hw _ (List.mem_of_getElem? (i := 32) rfl)) (hw _ (List.mem_of_getElem? (i := 2) rfl)) (by decide) (by decide)) q132a q132c (g := (mkF m 40 #[.val (.long q0), .second, .val (.long q1), .second, .val (.long q2), .second, .val (.long q3), .second, .val (.int p4), .val (.ref b101), .val (.ref b114), .unset, .unset] [(.ref b114), (.ref b101)])) rfl (by rw [hml]; rfl) (Steps.refl _) (argsL := [(.ref b114)]) (rest := []) (lenOf pd5 rfl) rfl (by show 2 * 0 + _ ≤ _; exact Nat.le_of_eq rfl) (hb hby at_40) (fun _ _ => ⟨rfl, (rfl : T124.heap = T124.heap), (by decide : 2 + 0 ≤ _), (by decide : 6 + 0 ≤ _)⟩)
    dsimp only [Pt.U, Pt.locs, Pt.cells, Pt.slots] at X132 l132 y132 z132 st132 hQ132
    subst l132 y132 z132
    obtain ⟨rfl, N132q, K132q, F132_0, F132_1, F132_2, F132_3⟩ := hQ132
    have F133 := F125.keep K132q
    have F134 := F124_0.keep K132q
    have F135 := F124_1.keep K132q (ninS (Ne.symm ne_b101_b114) nin0)
    have F136 := F124_2.keep K132q (ninS (Ne.symm ne_b101_b114) nin0)
    have F137 := F124_3.keep K132q (ninS (Ne.symm ne_b101_b114) nin0)
    have Z138 : n0 ≤ T132.heap.size := Nat.le_trans Z130 K132q.1
    have K139 : Keep h0 T132.heap [] := K131.trans K132q (allS (Or.inr sz_b101) all0)
    have N132 := Fr.app N124 N132q
    obtain ⟨cq140, kq140, q140a, q140b, q140c⟩ := isOf hZ (rfl : T132.heap = T132.heap) F132_0
    obtain ⟨_, _, ⟨T140, L140, k140, n140⟩, -, X140, ⟨Lc140, hQ140, l140, y140, z140⟩, st140⟩ := X132.virtualBack hx (y := (⟨"com/example/millrace/millrace/queue/JournalClock", "latestMillis", "()J"⟩ : MethodName)) (z := (⟨"com/example/millrace/millrace/queue/JournalClock", "latestMillis", "()J"⟩ : MethodName)) hown (mvT hZ (hw _ (List.mem_of_getElem? (i := 33) rfl))) (mvT hZ (hw _ (List.mem_of_getElem? (i := 34) rfl))) (notFace_of_selects (args := #[]) (mvT hZ (hw _ (List.mem_of_getElem? (i := 36) rfl)))) (mvT hZ (hw _ (List.mem_of_getElem? (i := 36) rfl))) (mvT hZ (hw _ (List.mem_of_getElem? (i := 35) rfl))) (by decide) (backOf (W := 0) (rm7 l Z a0 hw [] b101 q0 (T132.heap) n0 Z138 F132_1) hZ (hw _ (List.mem_of_getElem? (i := 37) rfl)) (hw _ (List.mem_of_getElem? (i := 2) rfl)) (by decide) (by decide)) q140a q140c (g := (mkF m 45 #[.val (.long q0), .second, .val (.long q1), .second, .val (.long q2), .second, .val (.long q3), .second, .val (.int p4), .val (.ref b101), .val (.ref b114), .unset, .unset] [(.ref b101)])) rfl (by rw [hml]; rfl) (Steps.refl _) (argsL := []) (rest := []) (lenOf pd6 rfl) rfl (by show 2 * 0 + _ ≤ _; exact Nat.le_of_eq rfl) (hb hby at_45) (fun _ _ => ⟨rfl, (rfl : T132.heap = T132.heap), (by decide : 2 + 0 ≤ _), (by decide : 6 + 0 ≤ _)⟩)
    dsimp only [Pt.U, Pt.locs, Pt.cells, Pt.slots] at X140 l140 y140 z140 st140 hQ140
    subst l140 y140 z140
    obtain ⟨rfl, N140q, e140⟩ := hQ140
    have N140 := Fr.app N132 N140q
    obtain ⟨v5, hv5⟩ : ∃ z : Int32, z = (if q2 = q2 then (1 : Int32) else (0 : Int32)) := ⟨_, rfl⟩
    obtain ⟨v6, hv6⟩ : ∃ z : Int32, z = (if q1 = q1 then v5 else (0 : Int32)) := ⟨_, rfl⟩
    obtain ⟨v7, hv7⟩ : ∃ z : Int32, z = (if q0 = q0 then v6 else (0 : Int32)) := ⟨_, rfl⟩
    obtain ⟨T151, lc151, X151, N151, e151, st151⟩ := own_mrg (n0 := n0) (h := T132.heap) (g := (mkF m 50 #[.val (.long q0), .second, .val (.long q1), .second, .val (.long q2), .second, .val (.long q3), .second, .val (.int p4), .val (.ref b101), .val (.ref b114), .unset, .unset] [(.int (lcmpW q0 q0))])) (g' := (mkF m 79 #[.val (.long q0), .second, .val (.long q1), .second, .val (.long q2), .second, .val (.long q3), .second, .val (.int p4), .val (.ref b101), .val (.ref b114), .unset, .unset] [(.int v7)])) X140 (by
      by_cases hc50_2 : q0 = q0
      · obtain ⟨cq141, kq141, q141a, q141b, q141c⟩ := isOf hZ e140 F132_0
        obtain ⟨_, _, ⟨T141, L141, k141, n141⟩, -, X141, ⟨Lc141, hQ141, l141, y141, z141⟩, st141⟩ := X140.virtualBack hx (y := (⟨"com/example/millrace/millrace/queue/JournalClock", "millis", "()J"⟩ : MethodName)) (z := (⟨"com/example/millrace/millrace/queue/JournalClock", "millis", "()J"⟩ : MethodName)) hown (mvT hZ (hw _ (List.mem_of_getElem? (i := 38) rfl))) (mvT hZ (hw _ (List.mem_of_getElem? (i := 39) rfl))) (notFace_of_selects (args := #[]) (mvT hZ (hw _ (List.mem_of_getElem? (i := 41) rfl)))) (mvT hZ (hw _ (List.mem_of_getElem? (i := 41) rfl))) (mvT hZ (hw _ (List.mem_of_getElem? (i := 40) rfl))) (by decide) (backOf (W := 0) (rm8 l Z a0 hw [] b101 q1 (T132.heap) n0 Z138 F132_2) hZ (hw _ (List.mem_of_getElem? (i := 42) rfl)) (hw _ (List.mem_of_getElem? (i := 2) rfl)) (by decide) (by decide)) q141a q141c (g := (mkF m 55 #[.val (.long q0), .second, .val (.long q1), .second, .val (.long q2), .second, .val (.long q3), .second, .val (.int p4), .val (.ref b101), .val (.ref b114), .unset, .unset] [(.ref b101)])) rfl (by rw [hml]; rfl) (Steps.refl _) (argsL := []) (rest := []) (lenOf pd6 rfl) rfl (by show 2 * 0 + _ ≤ _; exact Nat.le_of_eq rfl) (hb hby at_55) (fun _ _ => ⟨rfl, e140, (by decide : 2 + 0 ≤ _), (by decide : 6 + 0 ≤ _)⟩)
        dsimp only [Pt.U, Pt.locs, Pt.cells, Pt.slots] at X141 l141 y141 z141 st141 hQ141
        subst l141 y141 z141
        obtain ⟨rfl, N141q, e141⟩ := hQ141
        have N141 := Fr.app N140 N141q
        obtain ⟨T148, lc148, X148, N148, e148, st148⟩ := own_mrg (n0 := n0) (h := T132.heap) (g := (mkF m 60 #[.val (.long q0), .second, .val (.long q1), .second, .val (.long q2), .second, .val (.long q3), .second, .val (.int p4), .val (.ref b101), .val (.ref b114), .unset, .unset] [(.int (lcmpW q1 q1))])) (g' := (mkF m 79 #[.val (.long q0), .second, .val (.long q1), .second, .val (.long q2), .second, .val (.long q3), .second, .val (.int p4), .val (.ref b101), .val (.ref b114), .unset, .unset] [(.int v6)])) X141 (by
          by_cases hc60_3 : q1 = q1
          · obtain ⟨cq142, kq142, q142a, q142b, q142c⟩ := isOf hZ e141 F132_0
            obtain ⟨_, _, ⟨T142, L142, k142, n142⟩, -, X142, ⟨Lc142, hQ142, l142, y142, z142⟩, st142⟩ := X141.virtualBack hx (y := (⟨"com/example/millrace/millrace/queue/JournalClock", "leadMillis", "()J"⟩ : MethodName)) (z := (⟨"com/example/millrace/millrace/queue/JournalClock", "leadMillis", "()J"⟩ : MethodName)) hown (mvT hZ (hw _ (List.mem_of_getElem? (i := 43) rfl))) (mvT hZ (hw _ (List.mem_of_getElem? (i := 44) rfl))) (notFace_of_selects (args := #[]) (mvT hZ (hw _ (List.mem_of_getElem? (i := 46) rfl)))) (mvT hZ (hw _ (List.mem_of_getElem? (i := 46) rfl))) (mvT hZ (hw _ (List.mem_of_getElem? (i := 45) rfl))) (by decide) (backOf (W := 0) (rm9 l Z a0 hw [] b101 q2 (T132.heap) n0 Z138 F132_3) hZ (hw _ (List.mem_of_getElem? (i := 47) rfl)) (hw _ (List.mem_of_getElem? (i := 2) rfl)) (by decide) (by decide)) q142a q142c (g := (mkF m 65 #[.val (.long q0), .second, .val (.long q1), .second, .val (.long q2), .second, .val (.long q3), .second, .val (.int p4), .val (.ref b101), .val (.ref b114), .unset, .unset] [(.ref b101)])) rfl (by rw [hml]; rfl) (Steps.refl _) (argsL := []) (rest := []) (lenOf pd6 rfl) rfl (by show 2 * 0 + _ ≤ _; exact Nat.le_of_eq rfl) (hb hby at_65) (fun _ _ => ⟨rfl, e141, (by decide : 2 + 0 ≤ _), (by decide : 6 + 0 ≤ _)⟩)
            dsimp only [Pt.U, Pt.locs, Pt.cells, Pt.slots] at X142 l142 y142 z142 st142 hQ142
            subst l142 y142 z142
            obtain ⟨rfl, N142q, e142⟩ := hQ142
            have N142 := Fr.app N141 N142q
            obtain ⟨T145, lc145, X145, N145, e145, st145⟩ := own_mrg (n0 := n0) (h := T132.heap) (g := (mkF m 71 #[.val (.long q0), .second, .val (.long q1), .second, .val (.long q2), .second, .val (.long q3), .second, .val (.int p4), .val (.ref b101), .val (.ref b114), .unset, .unset] [(.int (lcmpW q2 q2))])) (g' := (mkF m 79 #[.val (.long q0), .second, .val (.long q1), .second, .val (.long q2), .second, .val (.long q3), .second, .val (.int p4), .val (.ref b101), .val (.ref b114), .unset, .unset] [(.int v5)])) X142 (by
              by_cases hc71_4 : q2 = q2
              · have hgo143 : ∀ t, Steps p.tables e below (T142.setTop (mkF m 79 #[.val (.long q0), .second, .val (.long q1), .second, .val (.long q2), .second, .val (.long q3), .second, .val (.int p4), .val (.ref b101), .val (.ref b114), .unset, .unset] [(.int (1 : Int32))])) t → Steps p.tables e below (T142.setTop (mkF m 71 #[.val (.long q0), .second, .val (.long q1), .second, .val (.long q2), .second, .val (.long q3), .second, .val (.int p4), .val (.ref b101), .val (.ref b114), .unset, .unset] [(.int (lcmpW q2 q2))])) t := by
                  intro t kt
                  show Steps p.tables e below (T142.setTop (mkF m 71 #[.val (.long q0), .second, .val (.long q1), .second, .val (.long q2), .second, .val (.long q3), .second, .val (.int p4), .val (.ref b101), .val (.ref b114), .unset, .unset] [(.int (lcmpW q2 q2))])) _
                  refine XS.ifNo X142.here hx rfl (hb hby at_71) rfl ((if0 _ _).trans (teq (own_lc_eq hc71_4)).2) ?_
                  show Steps p.tables e below (T142.setTop (mkF m 74 #[.val (.long q0), .second, .val (.long q1), .second, .val (.long q2), .second, .val (.long q3), .second, .val (.int p4), .val (.ref b101), .val (.ref b114), .unset, .unset] [])) _
                  refine XS.iconst X142.here hx rfl (hb hby at_74) ?_
                  show Steps p.tables e below (T142.setTop (mkF m 75 #[.val (.long q0), .second, .val (.long q1), .second, .val (.long q2), .second, .val (.long q3), .second, .val (.int p4), .val (.ref b101), .val (.ref b114), .unset, .unset] [(.int (1 : Int32))])) _
                  refine XS.goto X142.here hx rfl (pc0 := 75) (pc' := 79) rfl (hb hby at_75) (by decide) (by decide) ?_
                  exact kt
                refine own_arm hgo143 ?_
                exact own_armEnd X142 N142 e142 (by rw [hv5.trans (if_pos hc71_4)])
              · have hgo144 : ∀ t, Steps p.tables e below (T142.setTop (mkF m 79 #[.val (.long q0), .second, .val (.long q1), .second, .val (.long q2), .second, .val (.long q3), .second, .val (.int p4), .val (.ref b101), .val (.ref b114), .unset, .unset] [(.int (0 : Int32))])) t → Steps p.tables e below (T142.setTop (mkF m 71 #[.val (.long q0), .second, .val (.long q1), .second, .val (.long q2), .second, .val (.long q3), .second, .val (.int p4), .val (.ref b101), .val (.ref b114), .unset, .unset] [(.int (lcmpW q2 q2))])) t := by
                  intro t kt
                  show Steps p.tables e below (T142.setTop (mkF m 71 #[.val (.long q0), .second, .val (.long q1), .second, .val (.long q2), .second, .val (.long q3), .second, .val (.int p4), .val (.ref b101), .val (.ref b114), .unset, .unset] [(.int (lcmpW q2 q2))])) _
                  refine XS.ifYes X142.here hx rfl (pc0 := 71) (pc' := 78) rfl (hb hby at_71) rfl ((if0 _ _).trans (feq (own_lc_neq hc71_4)).2) (by decide) (by decide) ?_
                  show Steps p.tables e below (T142.setTop (mkF m 78 #[.val (.long q0), .second, .val (.long q1), .second, .val (.long q2), .second, .val (.long q3), .second, .val (.int p4), .val (.ref b101), .val (.ref b114), .unset, .unset] [])) _
                  refine XS.iconst X142.here hx rfl (hb hby at_78) ?_
                  exact kt
                refine own_arm hgo144 ?_
                exact own_armEnd X142 N142 e142 (by rw [hv5.trans (if_neg hc71_4)]))
            have hgo146 : ∀ t, Steps p.tables e below (T145.setTop (mkF m 79 #[.val (.long q0), .second, .val (.long q1), .second, .val (.long q2), .second, .val (.long q3), .second, .val (.int p4), .val (.ref b101), .val (.ref b114), .unset, .unset] [(.int v5)])) t → Steps p.tables e below (T141.setTop (mkF m 60 #[.val (.long q0), .second, .val (.long q1), .second, .val (.long q2), .second, .val (.long q3), .second, .val (.int p4), .val (.ref b101), .val (.ref b114), .unset, .unset] [(.int (lcmpW q1 q1))])) t := by
              intro t kt
              show Steps p.tables e below (T141.setTop (mkF m 60 #[.val (.long q0), .second, .val (.long q1), .second, .val (.long q2), .second, .val (.long q3), .second, .val (.int p4), .val (.ref b101), .val (.ref b114), .unset, .unset] [(.int (lcmpW q1 q1))])) _
              refine XS.ifNo X141.here hx rfl (hb hby at_60) rfl ((if0 _ _).trans (teq (own_lc_eq hc60_3)).2) ?_
              show Steps p.tables e below (T141.setTop (mkF m 63 #[.val (.long q0), .second, .val (.long q1), .second, .val (.long q2), .second, .val (.long q3), .second, .val (.int p4), .val (.ref b101), .val (.ref b114), .unset, .unset] [])) _
              refine XS.aload X141.here hx rfl (hb hby at_63) rfl rfl ?_
              show Steps p.tables e below (T141.setTop (mkF m 65 #[.val (.long q0), .second, .val (.long q1), .second, .val (.long q2), .second, .val (.long q3), .second, .val (.int p4), .val (.ref b101), .val (.ref b114), .unset, .unset] [(.ref b101)])) _
              refine st142.trans ?_
              show Steps p.tables e below (T142.setTop (mkF m 68 #[.val (.long q0), .second, .val (.long q1), .second, .val (.long q2), .second, .val (.long q3), .second, .val (.int p4), .val (.ref b101), .val (.ref b114), .unset, .unset] [(.long q2)])) _
              refine XS.lload X142.here hx rfl (hb hby at_68) rfl ?_
              show Steps p.tables e below (T142.setTop (mkF m 70 #[.val (.long q0), .second, .val (.long q1), .second, .val (.long q2), .second, .val (.long q3), .second, .val (.int p4), .val (.ref b101), .val (.ref b114), .unset, .unset] [(.long q2), (.long q2)])) _
              refine XS.lcmp X142.here hx rfl (hb hby at_70) rfl ?_
              show Steps p.tables e below (T142.setTop (mkF m 71 #[.val (.long q0), .second, .val (.long q1), .second, .val (.long q2), .second, .val (.long q3), .second, .val (.int p4), .val (.ref b101), .val (.ref b114), .unset, .unset] [(.int (lcmpW q2 q2))])) _
              refine st145 _ ?_
              exact kt
            refine own_arm hgo146 ?_
            exact own_armEnd X145 N145 e145 (by rw [hv6.trans (if_pos hc60_3)])
          · have hgo147 : ∀ t, Steps p.tables e below (T141.setTop (mkF m 79 #[.val (.long q0), .second, .val (.long q1), .second, .val (.long q2), .second, .val (.long q3), .second, .val (.int p4), .val (.ref b101), .val (.ref b114), .unset, .unset] [(.int (0 : Int32))])) t → Steps p.tables e below (T141.setTop (mkF m 60 #[.val (.long q0), .second, .val (.long q1), .second, .val (.long q2), .second, .val (.long q3), .second, .val (.int p4), .val (.ref b101), .val (.ref b114), .unset, .unset] [(.int (lcmpW q1 q1))])) t := by
              intro t kt
              show Steps p.tables e below (T141.setTop (mkF m 60 #[.val (.long q0), .second, .val (.long q1), .second, .val (.long q2), .second, .val (.long q3), .second, .val (.int p4), .val (.ref b101), .val (.ref b114), .unset, .unset] [(.int (lcmpW q1 q1))])) _
              refine XS.ifYes X141.here hx rfl (pc0 := 60) (pc' := 78) rfl (hb hby at_60) rfl ((if0 _ _).trans (feq (own_lc_neq hc60_3)).2) (by decide) (by decide) ?_
              show Steps p.tables e below (T141.setTop (mkF m 78 #[.val (.long q0), .second, .val (.long q1), .second, .val (.long q2), .second, .val (.long q3), .second, .val (.int p4), .val (.ref b101), .val (.ref b114), .unset, .unset] [])) _
              refine XS.iconst X141.here hx rfl (hb hby at_78) ?_
              exact kt
            refine own_arm hgo147 ?_
            exact own_armEnd X141 N141 e141 (by rw [hv6.trans (if_neg hc60_3)]))
        have hgo149 : ∀ t, Steps p.tables e below (T148.setTop (mkF m 79 #[.val (.long q0), .second, .val (.long q1), .second, .val (.long q2), .second, .val (.long q3), .second, .val (.int p4), .val (.ref b101), .val (.ref b114), .unset, .unset] [(.int v6)])) t → Steps p.tables e below (T140.setTop (mkF m 50 #[.val (.long q0), .second, .val (.long q1), .second, .val (.long q2), .second, .val (.long q3), .second, .val (.int p4), .val (.ref b101), .val (.ref b114), .unset, .unset] [(.int (lcmpW q0 q0))])) t := by
          intro t kt
          show Steps p.tables e below (T140.setTop (mkF m 50 #[.val (.long q0), .second, .val (.long q1), .second, .val (.long q2), .second, .val (.long q3), .second, .val (.int p4), .val (.ref b101), .val (.ref b114), .unset, .unset] [(.int (lcmpW q0 q0))])) _
          refine XS.ifNo X140.here hx rfl (hb hby at_50) rfl ((if0 _ _).trans (teq (own_lc_eq hc50_2)).2) ?_
          show Steps p.tables e below (T140.setTop (mkF m 53 #[.val (.long q0), .second, .val (.long q1), .second, .val (.long q2), .second, .val (.long q3), .second, .val (.int p4), .val (.ref b101), .val (.ref b114), .unset, .unset] [])) _
          refine XS.aload X140.here hx rfl (hb hby at_53) rfl rfl ?_
          show Steps p.tables e below (T140.setTop (mkF m 55 #[.val (.long q0), .second, .val (.long q1), .second, .val (.long q2), .second, .val (.long q3), .second, .val (.int p4), .val (.ref b101), .val (.ref b114), .unset, .unset] [(.ref b101)])) _
          refine st141.trans ?_
          show Steps p.tables e below (T141.setTop (mkF m 58 #[.val (.long q0), .second, .val (.long q1), .second, .val (.long q2), .second, .val (.long q3), .second, .val (.int p4), .val (.ref b101), .val (.ref b114), .unset, .unset] [(.long q1)])) _
          refine XS.lloadN X141.here hx rfl (hb hby at_58) rfl ?_
          show Steps p.tables e below (T141.setTop (mkF m 59 #[.val (.long q0), .second, .val (.long q1), .second, .val (.long q2), .second, .val (.long q3), .second, .val (.int p4), .val (.ref b101), .val (.ref b114), .unset, .unset] [(.long q1), (.long q1)])) _
          refine XS.lcmp X141.here hx rfl (hb hby at_59) rfl ?_
          show Steps p.tables e below (T141.setTop (mkF m 60 #[.val (.long q0), .second, .val (.long q1), .second, .val (.long q2), .second, .val (.long q3), .second, .val (.int p4), .val (.ref b101), .val (.ref b114), .unset, .unset] [(.int (lcmpW q1 q1))])) _
          refine st148 _ ?_
          exact kt
        refine own_arm hgo149 ?_
        exact own_armEnd X148 N148 e148 (by rw [hv7.trans (if_pos hc50_2)])
      · have hgo150 : ∀ t, Steps p.tables e below (T140.setTop (mkF m 79 #[.val (.long q0), .second, .val (.long q1), .second, .val (.long q2), .second, .val (.long q3), .second, .val (.int p4), .val (.ref b101), .val (.ref b114), .unset, .unset] [(.int (0 : Int32))])) t → Steps p.tables e below (T140.setTop (mkF m 50 #[.val (.long q0), .second, .val (.long q1), .second, .val (.long q2), .second, .val (.long q3), .second, .val (.int p4), .val (.ref b101), .val (.ref b114), .unset, .unset] [(.int (lcmpW q0 q0))])) t := by
          intro t kt
          show Steps p.tables e below (T140.setTop (mkF m 50 #[.val (.long q0), .second, .val (.long q1), .second, .val (.long q2), .second, .val (.long q3), .second, .val (.int p4), .val (.ref b101), .val (.ref b114), .unset, .unset] [(.int (lcmpW q0 q0))])) _
          refine XS.ifYes X140.here hx rfl (pc0 := 50) (pc' := 78) rfl (hb hby at_50) rfl ((if0 _ _).trans (feq (own_lc_neq hc50_2)).2) (by decide) (by decide) ?_
          show Steps p.tables e below (T140.setTop (mkF m 78 #[.val (.long q0), .second, .val (.long q1), .second, .val (.long q2), .second, .val (.long q3), .second, .val (.int p4), .val (.ref b101), .val (.ref b114), .unset, .unset] [])) _
          refine XS.iconst X140.here hx rfl (hb hby at_78) ?_
          exact kt
        refine own_arm hgo150 ?_
        exact own_armEnd X140 N140 e140 (by rw [hv7.trans (if_neg hc50_2)]))
    obtain ⟨cq152, kq152, q152a, q152b, q152c⟩ := isOf hZ e151 F134
    obtain ⟨_, _, ⟨T152, L152, k152, n152⟩, -, X152, ⟨Lc152, hQ152, l152, y152, z152⟩, st152⟩ := X151.virtualBack hx (y := (⟨"com/example/millrace/millrace/queue/JournalClock", "latestMillis", "()J"⟩ : MethodName)) (z := (⟨"com/example/millrace/millrace/queue/JournalClock", "latestMillis", "()J"⟩ : MethodName)) hown (mvT hZ (hw _ (List.mem_of_getElem? (i := 33) rfl))) (mvT hZ (hw _ (List.mem_of_getElem? (i := 34) rfl))) (notFace_of_selects (args := #[]) (mvT hZ (hw _ (List.mem_of_getElem? (i := 36) rfl)))) (mvT hZ (hw _ (List.mem_of_getElem? (i := 36) rfl))) (mvT hZ (hw _ (List.mem_of_getElem? (i := 35) rfl))) (by decide) (backOf (W := 0) (rm7 l Z a0 hw [] b114 q0 (T132.heap) n0 Z138 F135) hZ (hw _ (List.mem_of_getElem? (i := 37) rfl)) (hw _ (List.mem_of_getElem? (i := 2) rfl)) (by decide) (by decide)) q152a q152c (g := (mkF m 83 #[.val (.long q0), .second, .val (.long q1), .second, .val (.long q2), .second, .val (.long q3), .second, .val (.int p4), .val (.ref b101), .val (.ref b114), .val (.int v7), .unset] [(.ref b114)])) rfl (by rw [hml]; rfl) (Steps.refl _) (argsL := []) (rest := []) (lenOf pd6 rfl) rfl (by show 2 * 0 + _ ≤ _; exact Nat.le_of_eq rfl) (hb hby at_83) (fun _ _ => ⟨rfl, e151, (by decide : 2 + 0 ≤ _), (by decide : 6 + 0 ≤ _)⟩)
    dsimp only [Pt.U, Pt.locs, Pt.cells, Pt.slots] at X152 l152 y152 z152 st152 hQ152
    subst l152 y152 z152
    obtain ⟨rfl, N152q, e152⟩ := hQ152
    have N152 := Fr.app N151 N152q
    obtain ⟨T163, lc163, X163, N163, e163, st163⟩ := own_mrg (n0 := n0) (h := T132.heap) (g := (mkF m 88 #[.val (.long q0), .second, .val (.long q1), .second, .val (.long q2), .second, .val (.long q3), .second, .val (.int p4), .val (.ref b101), .val (.ref b114), .val (.int v7), .unset] [(.int (lcmpW q0 q0))])) (g' := (mkF m 117 #[.val (.long q0), .second, .val (.long q1), .second, .val (.long q2), .second, .val (.long q3), .second, .val (.int p4), .val (.ref b101), .val (.ref b114), .val (.int v7), .unset] [(.int v7)])) X152 (by
      by_cases hc88_8 : q0 = q0
      · obtain ⟨cq153, kq153, q153a, q153b, q153c⟩ := isOf hZ e152 F134
        obtain ⟨_, _, ⟨T153, L153, k153, n153⟩, -, X153, ⟨Lc153, hQ153, l153, y153, z153⟩, st153⟩ := X152.virtualBack hx (y := (⟨"com/example/millrace/millrace/queue/JournalClock", "millis", "()J"⟩ : MethodName)) (z := (⟨"com/example/millrace/millrace/queue/JournalClock", "millis", "()J"⟩ : MethodName)) hown (mvT hZ (hw _ (List.mem_of_getElem? (i := 38) rfl))) (mvT hZ (hw _ (List.mem_of_getElem? (i := 39) rfl))) (notFace_of_selects (args := #[]) (mvT hZ (hw _ (List.mem_of_getElem? (i := 41) rfl)))) (mvT hZ (hw _ (List.mem_of_getElem? (i := 41) rfl))) (mvT hZ (hw _ (List.mem_of_getElem? (i := 40) rfl))) (by decide) (backOf (W := 0) (rm8 l Z a0 hw [] b114 q1 (T132.heap) n0 Z138 F136) hZ (hw _ (List.mem_of_getElem? (i := 42) rfl)) (hw _ (List.mem_of_getElem? (i := 2) rfl)) (by decide) (by decide)) q153a q153c (g := (mkF m 93 #[.val (.long q0), .second, .val (.long q1), .second, .val (.long q2), .second, .val (.long q3), .second, .val (.int p4), .val (.ref b101), .val (.ref b114), .val (.int v7), .unset] [(.ref b114)])) rfl (by rw [hml]; rfl) (Steps.refl _) (argsL := []) (rest := []) (lenOf pd6 rfl) rfl (by show 2 * 0 + _ ≤ _; exact Nat.le_of_eq rfl) (hb hby at_93) (fun _ _ => ⟨rfl, e152, (by decide : 2 + 0 ≤ _), (by decide : 6 + 0 ≤ _)⟩)
        dsimp only [Pt.U, Pt.locs, Pt.cells, Pt.slots] at X153 l153 y153 z153 st153 hQ153
        subst l153 y153 z153
        obtain ⟨rfl, N153q, e153⟩ := hQ153
        have N153 := Fr.app N152 N153q
        obtain ⟨T160, lc160, X160, N160, e160, st160⟩ := own_mrg (n0 := n0) (h := T132.heap) (g := (mkF m 98 #[.val (.long q0), .second, .val (.long q1), .second, .val (.long q2), .second, .val (.long q3), .second, .val (.int p4), .val (.ref b101), .val (.ref b114), .val (.int v7), .unset] [(.int (lcmpW q1 q1))])) (g' := (mkF m 117 #[.val (.long q0), .second, .val (.long q1), .second, .val (.long q2), .second, .val (.long q3), .second, .val (.int p4), .val (.ref b101), .val (.ref b114), .val (.int v7), .unset] [(.int v6)])) X153 (by
          by_cases hc98_9 : q1 = q1
          · obtain ⟨cq154, kq154, q154a, q154b, q154c⟩ := isOf hZ e153 F134
            obtain ⟨_, _, ⟨T154, L154, k154, n154⟩, -, X154, ⟨Lc154, hQ154, l154, y154, z154⟩, st154⟩ := X153.virtualBack hx (y := (⟨"com/example/millrace/millrace/queue/JournalClock", "leadMillis", "()J"⟩ : MethodName)) (z := (⟨"com/example/millrace/millrace/queue/JournalClock", "leadMillis", "()J"⟩ : MethodName)) hown (mvT hZ (hw _ (List.mem_of_getElem? (i := 43) rfl))) (mvT hZ (hw _ (List.mem_of_getElem? (i := 44) rfl))) (notFace_of_selects (args := #[]) (mvT hZ (hw _ (List.mem_of_getElem? (i := 46) rfl)))) (mvT hZ (hw _ (List.mem_of_getElem? (i := 46) rfl))) (mvT hZ (hw _ (List.mem_of_getElem? (i := 45) rfl))) (by decide) (backOf (W := 0) (rm9 l Z a0 hw [] b114 q2 (T132.heap) n0 Z138 F137) hZ (hw _ (List.mem_of_getElem? (i := 47) rfl)) (hw _ (List.mem_of_getElem? (i := 2) rfl)) (by decide) (by decide)) q154a q154c (g := (mkF m 103 #[.val (.long q0), .second, .val (.long q1), .second, .val (.long q2), .second, .val (.long q3), .second, .val (.int p4), .val (.ref b101), .val (.ref b114), .val (.int v7), .unset] [(.ref b114)])) rfl (by rw [hml]; rfl) (Steps.refl _) (argsL := []) (rest := []) (lenOf pd6 rfl) rfl (by show 2 * 0 + _ ≤ _; exact Nat.le_of_eq rfl) (hb hby at_103) (fun _ _ => ⟨rfl, e153, (by decide : 2 + 0 ≤ _), (by decide : 6 + 0 ≤ _)⟩)
            dsimp only [Pt.U, Pt.locs, Pt.cells, Pt.slots] at X154 l154 y154 z154 st154 hQ154
            subst l154 y154 z154
            obtain ⟨rfl, N154q, e154⟩ := hQ154
            have N154 := Fr.app N153 N154q
            obtain ⟨T157, lc157, X157, N157, e157, st157⟩ := own_mrg (n0 := n0) (h := T132.heap) (g := (mkF m 109 #[.val (.long q0), .second, .val (.long q1), .second, .val (.long q2), .second, .val (.long q3), .second, .val (.int p4), .val (.ref b101), .val (.ref b114), .val (.int v7), .unset] [(.int (lcmpW q2 q2))])) (g' := (mkF m 117 #[.val (.long q0), .second, .val (.long q1), .second, .val (.long q2), .second, .val (.long q3), .second, .val (.int p4), .val (.ref b101), .val (.ref b114), .val (.int v7), .unset] [(.int v5)])) X154 (by
              by_cases hc109_10 : q2 = q2
              · have hgo155 : ∀ t, Steps p.tables e below (T154.setTop (mkF m 117 #[.val (.long q0), .second, .val (.long q1), .second, .val (.long q2), .second, .val (.long q3), .second, .val (.int p4), .val (.ref b101), .val (.ref b114), .val (.int v7), .unset] [(.int (1 : Int32))])) t → Steps p.tables e below (T154.setTop (mkF m 109 #[.val (.long q0), .second, .val (.long q1), .second, .val (.long q2), .second, .val (.long q3), .second, .val (.int p4), .val (.ref b101), .val (.ref b114), .val (.int v7), .unset] [(.int (lcmpW q2 q2))])) t := by
                  intro t kt
                  show Steps p.tables e below (T154.setTop (mkF m 109 #[.val (.long q0), .second, .val (.long q1), .second, .val (.long q2), .second, .val (.long q3), .second, .val (.int p4), .val (.ref b101), .val (.ref b114), .val (.int v7), .unset] [(.int (lcmpW q2 q2))])) _
                  refine XS.ifNo X154.here hx rfl (hb hby at_109) rfl ((if0 _ _).trans (teq (own_lc_eq hc109_10)).2) ?_
                  show Steps p.tables e below (T154.setTop (mkF m 112 #[.val (.long q0), .second, .val (.long q1), .second, .val (.long q2), .second, .val (.long q3), .second, .val (.int p4), .val (.ref b101), .val (.ref b114), .val (.int v7), .unset] [])) _
                  refine XS.iconst X154.here hx rfl (hb hby at_112) ?_
                  show Steps p.tables e below (T154.setTop (mkF m 113 #[.val (.long q0), .second, .val (.long q1), .second, .val (.long q2), .second, .val (.long q3), .second, .val (.int p4), .val (.ref b101), .val (.ref b114), .val (.int v7), .unset] [(.int (1 : Int32))])) _
                  refine XS.goto X154.here hx rfl (pc0 := 113) (pc' := 117) rfl (hb hby at_113) (by decide) (by decide) ?_
                  exact kt
                refine own_arm hgo155 ?_
                exact own_armEnd X154 N154 e154 (by rw [hv5.trans (if_pos hc109_10)])
              · have hgo156 : ∀ t, Steps p.tables e below (T154.setTop (mkF m 117 #[.val (.long q0), .second, .val (.long q1), .second, .val (.long q2), .second, .val (.long q3), .second, .val (.int p4), .val (.ref b101), .val (.ref b114), .val (.int v7), .unset] [(.int (0 : Int32))])) t → Steps p.tables e below (T154.setTop (mkF m 109 #[.val (.long q0), .second, .val (.long q1), .second, .val (.long q2), .second, .val (.long q3), .second, .val (.int p4), .val (.ref b101), .val (.ref b114), .val (.int v7), .unset] [(.int (lcmpW q2 q2))])) t := by
                  intro t kt
                  show Steps p.tables e below (T154.setTop (mkF m 109 #[.val (.long q0), .second, .val (.long q1), .second, .val (.long q2), .second, .val (.long q3), .second, .val (.int p4), .val (.ref b101), .val (.ref b114), .val (.int v7), .unset] [(.int (lcmpW q2 q2))])) _
                  refine XS.ifYes X154.here hx rfl (pc0 := 109) (pc' := 116) rfl (hb hby at_109) rfl ((if0 _ _).trans (feq (own_lc_neq hc109_10)).2) (by decide) (by decide) ?_
                  show Steps p.tables e below (T154.setTop (mkF m 116 #[.val (.long q0), .second, .val (.long q1), .second, .val (.long q2), .second, .val (.long q3), .second, .val (.int p4), .val (.ref b101), .val (.ref b114), .val (.int v7), .unset] [])) _
                  refine XS.iconst X154.here hx rfl (hb hby at_116) ?_
                  exact kt
                refine own_arm hgo156 ?_
                exact own_armEnd X154 N154 e154 (by rw [hv5.trans (if_neg hc109_10)]))
            have hgo158 : ∀ t, Steps p.tables e below (T157.setTop (mkF m 117 #[.val (.long q0), .second, .val (.long q1), .second, .val (.long q2), .second, .val (.long q3), .second, .val (.int p4), .val (.ref b101), .val (.ref b114), .val (.int v7), .unset] [(.int v5)])) t → Steps p.tables e below (T153.setTop (mkF m 98 #[.val (.long q0), .second, .val (.long q1), .second, .val (.long q2), .second, .val (.long q3), .second, .val (.int p4), .val (.ref b101), .val (.ref b114), .val (.int v7), .unset] [(.int (lcmpW q1 q1))])) t := by
              intro t kt
              show Steps p.tables e below (T153.setTop (mkF m 98 #[.val (.long q0), .second, .val (.long q1), .second, .val (.long q2), .second, .val (.long q3), .second, .val (.int p4), .val (.ref b101), .val (.ref b114), .val (.int v7), .unset] [(.int (lcmpW q1 q1))])) _
              refine XS.ifNo X153.here hx rfl (hb hby at_98) rfl ((if0 _ _).trans (teq (own_lc_eq hc98_9)).2) ?_
              show Steps p.tables e below (T153.setTop (mkF m 101 #[.val (.long q0), .second, .val (.long q1), .second, .val (.long q2), .second, .val (.long q3), .second, .val (.int p4), .val (.ref b101), .val (.ref b114), .val (.int v7), .unset] [])) _
              refine XS.aload X153.here hx rfl (hb hby at_101) rfl rfl ?_
              show Steps p.tables e below (T153.setTop (mkF m 103 #[.val (.long q0), .second, .val (.long q1), .second, .val (.long q2), .second, .val (.long q3), .second, .val (.int p4), .val (.ref b101), .val (.ref b114), .val (.int v7), .unset] [(.ref b114)])) _
              refine st154.trans ?_
              show Steps p.tables e below (T154.setTop (mkF m 106 #[.val (.long q0), .second, .val (.long q1), .second, .val (.long q2), .second, .val (.long q3), .second, .val (.int p4), .val (.ref b101), .val (.ref b114), .val (.int v7), .unset] [(.long q2)])) _
              refine XS.lload X154.here hx rfl (hb hby at_106) rfl ?_
              show Steps p.tables e below (T154.setTop (mkF m 108 #[.val (.long q0), .second, .val (.long q1), .second, .val (.long q2), .second, .val (.long q3), .second, .val (.int p4), .val (.ref b101), .val (.ref b114), .val (.int v7), .unset] [(.long q2), (.long q2)])) _
              refine XS.lcmp X154.here hx rfl (hb hby at_108) rfl ?_
              show Steps p.tables e below (T154.setTop (mkF m 109 #[.val (.long q0), .second, .val (.long q1), .second, .val (.long q2), .second, .val (.long q3), .second, .val (.int p4), .val (.ref b101), .val (.ref b114), .val (.int v7), .unset] [(.int (lcmpW q2 q2))])) _
              refine st157 _ ?_
              exact kt
            refine own_arm hgo158 ?_
            exact own_armEnd X157 N157 e157 (by rw [hv6.trans (if_pos hc98_9)])
          · have hgo159 : ∀ t, Steps p.tables e below (T153.setTop (mkF m 117 #[.val (.long q0), .second, .val (.long q1), .second, .val (.long q2), .second, .val (.long q3), .second, .val (.int p4), .val (.ref b101), .val (.ref b114), .val (.int v7), .unset] [(.int (0 : Int32))])) t → Steps p.tables e below (T153.setTop (mkF m 98 #[.val (.long q0), .second, .val (.long q1), .second, .val (.long q2), .second, .val (.long q3), .second, .val (.int p4), .val (.ref b101), .val (.ref b114), .val (.int v7), .unset] [(.int (lcmpW q1 q1))])) t := by
              intro t kt
              show Steps p.tables e below (T153.setTop (mkF m 98 #[.val (.long q0), .second, .val (.long q1), .second, .val (.long q2), .second, .val (.long q3), .second, .val (.int p4), .val (.ref b101), .val (.ref b114), .val (.int v7), .unset] [(.int (lcmpW q1 q1))])) _
              refine XS.ifYes X153.here hx rfl (pc0 := 98) (pc' := 116) rfl (hb hby at_98) rfl ((if0 _ _).trans (feq (own_lc_neq hc98_9)).2) (by decide) (by decide) ?_
              show Steps p.tables e below (T153.setTop (mkF m 116 #[.val (.long q0), .second, .val (.long q1), .second, .val (.long q2), .second, .val (.long q3), .second, .val (.int p4), .val (.ref b101), .val (.ref b114), .val (.int v7), .unset] [])) _
              refine XS.iconst X153.here hx rfl (hb hby at_116) ?_
              exact kt
            refine own_arm hgo159 ?_
            exact own_armEnd X153 N153 e153 (by rw [hv6.trans (if_neg hc98_9)]))
        have hgo161 : ∀ t, Steps p.tables e below (T160.setTop (mkF m 117 #[.val (.long q0), .second, .val (.long q1), .second, .val (.long q2), .second, .val (.long q3), .second, .val (.int p4), .val (.ref b101), .val (.ref b114), .val (.int v7), .unset] [(.int v6)])) t → Steps p.tables e below (T152.setTop (mkF m 88 #[.val (.long q0), .second, .val (.long q1), .second, .val (.long q2), .second, .val (.long q3), .second, .val (.int p4), .val (.ref b101), .val (.ref b114), .val (.int v7), .unset] [(.int (lcmpW q0 q0))])) t := by
          intro t kt
          show Steps p.tables e below (T152.setTop (mkF m 88 #[.val (.long q0), .second, .val (.long q1), .second, .val (.long q2), .second, .val (.long q3), .second, .val (.int p4), .val (.ref b101), .val (.ref b114), .val (.int v7), .unset] [(.int (lcmpW q0 q0))])) _
          refine XS.ifNo X152.here hx rfl (hb hby at_88) rfl ((if0 _ _).trans (teq (own_lc_eq hc88_8)).2) ?_
          show Steps p.tables e below (T152.setTop (mkF m 91 #[.val (.long q0), .second, .val (.long q1), .second, .val (.long q2), .second, .val (.long q3), .second, .val (.int p4), .val (.ref b101), .val (.ref b114), .val (.int v7), .unset] [])) _
          refine XS.aload X152.here hx rfl (hb hby at_91) rfl rfl ?_
          show Steps p.tables e below (T152.setTop (mkF m 93 #[.val (.long q0), .second, .val (.long q1), .second, .val (.long q2), .second, .val (.long q3), .second, .val (.int p4), .val (.ref b101), .val (.ref b114), .val (.int v7), .unset] [(.ref b114)])) _
          refine st153.trans ?_
          show Steps p.tables e below (T153.setTop (mkF m 96 #[.val (.long q0), .second, .val (.long q1), .second, .val (.long q2), .second, .val (.long q3), .second, .val (.int p4), .val (.ref b101), .val (.ref b114), .val (.int v7), .unset] [(.long q1)])) _
          refine XS.lloadN X153.here hx rfl (hb hby at_96) rfl ?_
          show Steps p.tables e below (T153.setTop (mkF m 97 #[.val (.long q0), .second, .val (.long q1), .second, .val (.long q2), .second, .val (.long q3), .second, .val (.int p4), .val (.ref b101), .val (.ref b114), .val (.int v7), .unset] [(.long q1), (.long q1)])) _
          refine XS.lcmp X153.here hx rfl (hb hby at_97) rfl ?_
          show Steps p.tables e below (T153.setTop (mkF m 98 #[.val (.long q0), .second, .val (.long q1), .second, .val (.long q2), .second, .val (.long q3), .second, .val (.int p4), .val (.ref b101), .val (.ref b114), .val (.int v7), .unset] [(.int (lcmpW q1 q1))])) _
          refine st160 _ ?_
          exact kt
        refine own_arm hgo161 ?_
        exact own_armEnd X160 N160 e160 (by rw [hv7.trans (if_pos hc88_8)])
      · have hgo162 : ∀ t, Steps p.tables e below (T152.setTop (mkF m 117 #[.val (.long q0), .second, .val (.long q1), .second, .val (.long q2), .second, .val (.long q3), .second, .val (.int p4), .val (.ref b101), .val (.ref b114), .val (.int v7), .unset] [(.int (0 : Int32))])) t → Steps p.tables e below (T152.setTop (mkF m 88 #[.val (.long q0), .second, .val (.long q1), .second, .val (.long q2), .second, .val (.long q3), .second, .val (.int p4), .val (.ref b101), .val (.ref b114), .val (.int v7), .unset] [(.int (lcmpW q0 q0))])) t := by
          intro t kt
          show Steps p.tables e below (T152.setTop (mkF m 88 #[.val (.long q0), .second, .val (.long q1), .second, .val (.long q2), .second, .val (.long q3), .second, .val (.int p4), .val (.ref b101), .val (.ref b114), .val (.int v7), .unset] [(.int (lcmpW q0 q0))])) _
          refine XS.ifYes X152.here hx rfl (pc0 := 88) (pc' := 116) rfl (hb hby at_88) rfl ((if0 _ _).trans (feq (own_lc_neq hc88_8)).2) (by decide) (by decide) ?_
          show Steps p.tables e below (T152.setTop (mkF m 116 #[.val (.long q0), .second, .val (.long q1), .second, .val (.long q2), .second, .val (.long q3), .second, .val (.int p4), .val (.ref b101), .val (.ref b114), .val (.int v7), .unset] [])) _
          refine XS.iconst X152.here hx rfl (hb hby at_116) ?_
          exact kt
        refine own_arm hgo162 ?_
        exact own_armEnd X152 N152 e152 (by rw [hv7.trans (if_neg hc88_8)]))
    obtain ⟨v12, hv12⟩ : ∃ z : Int32, z = (if v7 = (0 : Int32) then (0 : Int32) else (1 : Int32)) := ⟨_, rfl⟩
    obtain ⟨T166, lc166, X166, N166, e166, st166⟩ := own_mrg (n0 := n0) (h := T132.heap) (g := (mkF m 121 #[.val (.long q0), .second, .val (.long q1), .second, .val (.long q2), .second, .val (.long q3), .second, .val (.int p4), .val (.ref b101), .val (.ref b114), .val (.int v7), .val (.int v7)] [(.int v7)])) (g' := (mkF m 134 #[.val (.long q0), .second, .val (.long q1), .second, .val (.long q2), .second, .val (.long q3), .second, .val (.int p4), .val (.ref b101), .val (.ref b114), .val (.int v7), .val (.int v7)] [(.int v12)])) X163 (by
      by_cases hc121_11 : v7 = (0 : Int32)
      · have hgo164 : ∀ t, Steps p.tables e below (T163.setTop (mkF m 134 #[.val (.long q0), .second, .val (.long q1), .second, .val (.long q2), .second, .val (.long q3), .second, .val (.int p4), .val (.ref b101), .val (.ref b114), .val (.int v7), .val (.int v7)] [(.int (0 : Int32))])) t → Steps p.tables e below (T163.setTop (mkF m 121 #[.val (.long q0), .second, .val (.long q1), .second, .val (.long q2), .second, .val (.long q3), .second, .val (.int p4), .val (.ref b101), .val (.ref b114), .val (.int v7), .val (.int v7)] [(.int v7)])) t := by
          intro t kt
          show Steps p.tables e below (T163.setTop (mkF m 121 #[.val (.long q0), .second, .val (.long q1), .second, .val (.long q2), .second, .val (.long q3), .second, .val (.int p4), .val (.ref b101), .val (.ref b114), .val (.int v7), .val (.int v7)] [(.int v7)])) _
          refine XS.ifYes X163.here hx rfl (pc0 := 121) (pc' := 133) rfl (hb hby at_121) rfl ((if0 _ _).trans (teq hc121_11).1) (by decide) (by decide) ?_
          show Steps p.tables e below (T163.setTop (mkF m 133 #[.val (.long q0), .second, .val (.long q1), .second, .val (.long q2), .second, .val (.long q3), .second, .val (.int p4), .val (.ref b101), .val (.ref b114), .val (.int v7), .val (.int v7)] [])) _
          refine XS.iconst X163.here hx rfl (hb hby at_133) ?_
          exact kt
        refine own_arm hgo164 ?_
        exact own_armEnd X163 N163 e163 (by rw [hv12.trans (if_pos hc121_11)])
      · have hgo165 : ∀ t, Steps p.tables e below (T163.setTop (mkF m 134 #[.val (.long q0), .second, .val (.long q1), .second, .val (.long q2), .second, .val (.long q3), .second, .val (.int p4), .val (.ref b101), .val (.ref b114), .val (.int v7), .val (.int v7)] [(.int (1 : Int32))])) t → Steps p.tables e below (T163.setTop (mkF m 121 #[.val (.long q0), .second, .val (.long q1), .second, .val (.long q2), .second, .val (.long q3), .second, .val (.int p4), .val (.ref b101), .val (.ref b114), .val (.int v7), .val (.int v7)] [(.int v7)])) t := by
          intro t kt
          show Steps p.tables e below (T163.setTop (mkF m 121 #[.val (.long q0), .second, .val (.long q1), .second, .val (.long q2), .second, .val (.long q3), .second, .val (.int p4), .val (.ref b101), .val (.ref b114), .val (.int v7), .val (.int v7)] [(.int v7)])) _
          refine XS.ifNo X163.here hx rfl (hb hby at_121) rfl ((if0 _ _).trans (feq hc121_11).1) ?_
          show Steps p.tables e below (T163.setTop (mkF m 124 #[.val (.long q0), .second, .val (.long q1), .second, .val (.long q2), .second, .val (.long q3), .second, .val (.int p4), .val (.ref b101), .val (.ref b114), .val (.int v7), .val (.int v7)] [])) _
          refine XS.iload X163.here hx rfl (hb hby at_124) rfl ?_
          show Steps p.tables e below (T163.setTop (mkF m 126 #[.val (.long q0), .second, .val (.long q1), .second, .val (.long q2), .second, .val (.long q3), .second, .val (.int p4), .val (.ref b101), .val (.ref b114), .val (.int v7), .val (.int v7)] [(.int v7)])) _
          refine XS.ifNo X163.here hx rfl (hb hby at_126) rfl ((if0 _ _).trans (feq hc121_11).1) ?_
          show Steps p.tables e below (T163.setTop (mkF m 129 #[.val (.long q0), .second, .val (.long q1), .second, .val (.long q2), .second, .val (.long q3), .second, .val (.int p4), .val (.ref b101), .val (.ref b114), .val (.int v7), .val (.int v7)] [])) _
          refine XS.iconst X163.here hx rfl (hb hby at_129) ?_
          show Steps p.tables e below (T163.setTop (mkF m 130 #[.val (.long q0), .second, .val (.long q1), .second, .val (.long q2), .second, .val (.long q3), .second, .val (.int p4), .val (.ref b101), .val (.ref b114), .val (.int v7), .val (.int v7)] [(.int (1 : Int32))])) _
          refine XS.goto X163.here hx rfl (pc0 := 130) (pc' := 134) rfl (hb hby at_130) (by decide) (by decide) ?_
          exact kt
        refine own_arm hgo165 ?_
        exact own_armEnd X163 N163 e163 (by rw [hv12.trans (if_neg hc121_11)]))
    have hgo167 : ∀ t, Steps p.tables e below (T166.setTop (mkF m 134 #[.val (.long q0), .second, .val (.long q1), .second, .val (.long q2), .second, .val (.long q3), .second, .val (.int p4), .val (.ref b101), .val (.ref b114), .val (.int v7), .val (.int v7)] [(.int v12)])) t → Steps p.tables e below (T107.setTop (mkF m 13 #[.val (.long q0), .second, .val (.long q1), .second, .val (.long q2), .second, .val (.long q3), .second, .val (.int p4), .val (.ref b101), .unset, .unset, .unset] [(.int (p4 &&& (1 : Int32)))])) t := by
      intro t kt
      show Steps p.tables e below (T107.setTop (mkF m 13 #[.val (.long q0), .second, .val (.long q1), .second, .val (.long q2), .second, .val (.long q3), .second, .val (.int p4), .val (.ref b101), .unset, .unset, .unset] [(.int (p4 &&& (1 : Int32)))])) _
      refine XS.ifYes X107.here hx rfl (pc0 := 13) (pc' := 23) rfl (hb hby at_13) rfl ((if0 _ _).trans (teq hc13_1).1) (by decide) (by decide) ?_
      show Steps p.tables e below (T107.setTop (mkF m 23 #[.val (.long q0), .second, .val (.long q1), .second, .val (.long q2), .second, .val (.long q3), .second, .val (.int p4), .val (.ref b101), .unset, .unset, .unset] [])) _
      refine st114 _ ?_
      show Steps p.tables e below (T114.setTop (mkF m 26 #[.val (.long q0), .second, .val (.long q1), .second, .val (.long q2), .second, .val (.long q3), .second, .val (.int p4), .val (.ref b101), .unset, .unset, .unset] [(.ref b114)])) _
      refine XS.dup X114.here hx rfl (hb hby at_26) rfl rfl ?_
      show Steps p.tables e below (T114.setTop (mkF m 27 #[.val (.long q0), .second, .val (.long q1), .second, .val (.long q2), .second, .val (.long q3), .second, .val (.int p4), .val (.ref b101), .unset, .unset, .unset] [(.ref b114), (.ref b114)])) _
      refine XS.lloadN X114.here hx rfl (hb hby at_27) rfl ?_
      show Steps p.tables e below (T114.setTop (mkF m 28 #[.val (.long q0), .second, .val (.long q1), .second, .val (.long q2), .second, .val (.long q3), .second, .val (.int p4), .val (.ref b101), .unset, .unset, .unset] [(.long q0), (.ref b114), (.ref b114)])) _
      refine XS.lloadN X114.here hx rfl (hb hby at_28) rfl ?_
      show Steps p.tables e below (T114.setTop (mkF m 29 #[.val (.long q0), .second, .val (.long q1), .second, .val (.long q2), .second, .val (.long q3), .second, .val (.int p4), .val (.ref b101), .unset, .unset, .unset] [(.long q1), (.long q0), (.ref b114), (.ref b114)])) _
      refine XS.lload X114.here hx rfl (hb hby at_29) rfl ?_
      show Steps p.tables e below (T114.setTop (mkF m 31 #[.val (.long q0), .second, .val (.long q1), .second, .val (.long q2), .second, .val (.long q3), .second, .val (.int p4), .val (.ref b101), .unset, .unset, .unset] [(.long q2), (.long q1), (.long q0), (.ref b114), (.ref b114)])) _
      refine st124.trans ?_
      show Steps p.tables e below (T124.setTop (mkF m 34 #[.val (.long q0), .second, .val (.long q1), .second, .val (.long q2), .second, .val (.long q3), .second, .val (.int p4), .val (.ref b101), .unset, .unset, .unset] [(.ref b114)])) _
      refine XS.astore X124.here hx rfl (hb hby at_34) rfl rfl (l' := #[.val (.long q0), .second, .val (.long q1), .second, .val (.long q2), .second, .val (.long q3), .second, .val (.int p4), .val (.ref b101), .val (.ref b114), .unset, .unset]) rfl ?_
      show Steps p.tables e below (T124.setTop (mkF m 36 #[.val (.long q0), .second, .val (.long q1), .second, .val (.long q2), .second, .val (.long q3), .second, .val (.int p4), .val (.ref b101), .val (.ref b114), .unset, .unset] [])) _
      refine XS.aload X124.here hx rfl (hb hby at_36) rfl rfl ?_
      show Steps p.tables e below (T124.setTop (mkF m 38 #[.val (.long q0), .second, .val (.long q1), .second, .val (.long q2), .second, .val (.long q3), .second, .val (.int p4), .val (.ref b101), .val (.ref b114), .unset, .unset] [(.ref b101)])) _
      refine XS.aload X124.here hx rfl (hb hby at_38) rfl rfl ?_
      show Steps p.tables e below (T124.setTop (mkF m 40 #[.val (.long q0), .second, .val (.long q1), .second, .val (.long q2), .second, .val (.long q3), .second, .val (.int p4), .val (.ref b101), .val (.ref b114), .unset, .unset] [(.ref b114), (.ref b101)])) _
      refine st132.trans ?_
      show Steps p.tables e below (T132.setTop (mkF m 43 #[.val (.long q0), .second, .val (.long q1), .second, .val (.long q2), .second, .val (.long q3), .second, .val (.int p4), .val (.ref b101), .val (.ref b114), .unset, .unset] [])) _
      refine XS.aload X132.here hx rfl (hb hby at_43) rfl rfl ?_
      show Steps p.tables e below (T132.setTop (mkF m 45 #[.val (.long q0), .second, .val (.long q1), .second, .val (.long q2), .second, .val (.long q3), .second, .val (.int p4), .val (.ref b101), .val (.ref b114), .unset, .unset] [(.ref b101)])) _
      refine st140.trans ?_
      show Steps p.tables e below (T140.setTop (mkF m 48 #[.val (.long q0), .second, .val (.long q1), .second, .val (.long q2), .second, .val (.long q3), .second, .val (.int p4), .val (.ref b101), .val (.ref b114), .unset, .unset] [(.long q0)])) _
      refine XS.lloadN X140.here hx rfl (hb hby at_48) rfl ?_
      show Steps p.tables e below (T140.setTop (mkF m 49 #[.val (.long q0), .second, .val (.long q1), .second, .val (.long q2), .second, .val (.long q3), .second, .val (.int p4), .val (.ref b101), .val (.ref b114), .unset, .unset] [(.long q0), (.long q0)])) _
      refine XS.lcmp X140.here hx rfl (hb hby at_49) rfl ?_
      show Steps p.tables e below (T140.setTop (mkF m 50 #[.val (.long q0), .second, .val (.long q1), .second, .val (.long q2), .second, .val (.long q3), .second, .val (.int p4), .val (.ref b101), .val (.ref b114), .unset, .unset] [(.int (lcmpW q0 q0))])) _
      refine st151 _ ?_
      show Steps p.tables e below (T151.setTop (mkF m 79 #[.val (.long q0), .second, .val (.long q1), .second, .val (.long q2), .second, .val (.long q3), .second, .val (.int p4), .val (.ref b101), .val (.ref b114), .unset, .unset] [(.int v7)])) _
      refine XS.istore X151.here hx rfl (hb hby at_79) rfl (l' := #[.val (.long q0), .second, .val (.long q1), .second, .val (.long q2), .second, .val (.long q3), .second, .val (.int p4), .val (.ref b101), .val (.ref b114), .val (.int v7), .unset]) rfl ?_
      show Steps p.tables e below (T151.setTop (mkF m 81 #[.val (.long q0), .second, .val (.long q1), .second, .val (.long q2), .second, .val (.long q3), .second, .val (.int p4), .val (.ref b101), .val (.ref b114), .val (.int v7), .unset] [])) _
      refine XS.aload X151.here hx rfl (hb hby at_81) rfl rfl ?_
      show Steps p.tables e below (T151.setTop (mkF m 83 #[.val (.long q0), .second, .val (.long q1), .second, .val (.long q2), .second, .val (.long q3), .second, .val (.int p4), .val (.ref b101), .val (.ref b114), .val (.int v7), .unset] [(.ref b114)])) _
      refine st152.trans ?_
      show Steps p.tables e below (T152.setTop (mkF m 86 #[.val (.long q0), .second, .val (.long q1), .second, .val (.long q2), .second, .val (.long q3), .second, .val (.int p4), .val (.ref b101), .val (.ref b114), .val (.int v7), .unset] [(.long q0)])) _
      refine XS.lloadN X152.here hx rfl (hb hby at_86) rfl ?_
      show Steps p.tables e below (T152.setTop (mkF m 87 #[.val (.long q0), .second, .val (.long q1), .second, .val (.long q2), .second, .val (.long q3), .second, .val (.int p4), .val (.ref b101), .val (.ref b114), .val (.int v7), .unset] [(.long q0), (.long q0)])) _
      refine XS.lcmp X152.here hx rfl (hb hby at_87) rfl ?_
      show Steps p.tables e below (T152.setTop (mkF m 88 #[.val (.long q0), .second, .val (.long q1), .second, .val (.long q2), .second, .val (.long q3), .second, .val (.int p4), .val (.ref b101), .val (.ref b114), .val (.int v7), .unset] [(.int (lcmpW q0 q0))])) _
      refine st163 _ ?_
      show Steps p.tables e below (T163.setTop (mkF m 117 #[.val (.long q0), .second, .val (.long q1), .second, .val (.long q2), .second, .val (.long q3), .second, .val (.int p4), .val (.ref b101), .val (.ref b114), .val (.int v7), .unset] [(.int v7)])) _
      refine XS.istore X163.here hx rfl (hb hby at_117) rfl (l' := #[.val (.long q0), .second, .val (.long q1), .second, .val (.long q2), .second, .val (.long q3), .second, .val (.int p4), .val (.ref b101), .val (.ref b114), .val (.int v7), .val (.int v7)]) rfl ?_
      show Steps p.tables e below (T163.setTop (mkF m 119 #[.val (.long q0), .second, .val (.long q1), .second, .val (.long q2), .second, .val (.long q3), .second, .val (.int p4), .val (.ref b101), .val (.ref b114), .val (.int v7), .val (.int v7)] [])) _
      refine XS.iload X163.here hx rfl (hb hby at_119) rfl ?_
      show Steps p.tables e below (T163.setTop (mkF m 121 #[.val (.long q0), .second, .val (.long q1), .second, .val (.long q2), .second, .val (.long q3), .second, .val (.int p4), .val (.ref b101), .val (.ref b114), .val (.int v7), .val (.int v7)] [(.int v7)])) _
      refine st166 _ ?_
      exact kt
    refine own_go hgo167 ?_
    have hz168 : v12 = 1 := own_leaf0 (q0 := q0) (q1 := q1) (q2 := q2) (q3 := q3) (p4 := p4) hv5 hv6 hv7 hv12 hc13_1
    exact own_retZ X166 hx Bd.returns Bd.notSynchronized (hb hby at_134) (by decide) (by decide) (Or.inr hz168) ⟨by rw [hz168], N166⟩
  · obtain ⟨cq169, kq169, q169a, q169b, q169c⟩ := isOf hZ (rfl : T107.heap = T107.heap) F107_0
    obtain ⟨_, _, ⟨T169, L169, k169, n169⟩, -, X169, ⟨Lc169, hQ169, l169, y169, z169⟩, st169⟩ := X107.virtualBack hx (y := (⟨"com/example/millrace/millrace/queue/JournalClock", "written", "(J)V"⟩ : MethodName)) (z := (⟨"com/example/millrace/millrace/queue/JournalClock", "written", "(J)V"⟩ : MethodName)) hown (mvT hZ (hw _ (List.mem_of_getElem? (i := 14) rfl))) (mvT hZ (hw _ (List.mem_of_getElem? (i := 15) rfl))) (notFace_of_selects (args := #[]) (mvT hZ (hw _ (List.mem_of_getElem? (i := 17) rfl)))) (mvT hZ (hw _ (List.mem_of_getElem? (i := 17) rfl))) (mvT hZ (hw _ (List.mem_of_getElem? (i := 16) rfl))) (by decide) (backOf (W := 0) (rm3 l Z a0 hw [] b101 q3 (-9223372036854775808 : Int64) (-9223372036854775808 : Int64) (0 : Int64) (T107.heap) n0 Z109 F107_1 F107_0 F107_2 F107_3 g_b101) hZ (hw _ (List.mem_of_getElem? (i := 18) rfl)) (hw _ (List.mem_of_getElem? (i := 2) rfl)) (by decide) (by decide)) q169a q169c (g := (mkF m 20 #[.val (.long q0), .second, .val (.long q1), .second, .val (.long q2), .second, .val (.long q3), .second, .val (.int p4), .val (.ref b101), .unset, .unset, .unset] [(.long q3), (.ref b101)])) rfl (by rw [hml]; rfl) (Steps.refl _) (argsL := [(.long q3)]) (rest := []) (lenOf pd3 rfl) rfl (by show 2 * 0 + _ ≤ _; exact Nat.le_of_eq rfl) (hb hby at_20) (fun _ _ => ⟨rfl, (rfl : T107.heap = T107.heap), (by decide : 1 + 0 ≤ _), (by decide : 3 + 0 ≤ _)⟩)
    dsimp only [Pt.U, Pt.locs, Pt.cells, Pt.slots] at X169 l169 y169 z169 st169 hQ169
    subst l169 y169 z169
    obtain ⟨b169_0, b169_1, rfl, N169q, K169q, F169_0, F169_1, F169_2, F169_3⟩ := hQ169
    have F170 := F107_0.keep K169q
    have Z171 : n0 ≤ T169.heap.size := Nat.le_trans Z109 K169q.1
    have K172 : Keep h0 T169.heap [] := K110.trans K169q (allS (Or.inr sz_b101) all0)
    have N169 := Fr.app N107 N169q
    obtain ⟨T173, h173, X173, e173, E173, A173, D173, -, st173⟩ := newO X169 hx hZ hown (hw _ (List.mem_of_getElem? (i := 0) rfl)) (hw _ (List.mem_of_getElem? (i := 1) rfl)) (hw _ (List.mem_of_getElem? (i := 2) rfl)) (rfl : T169.heap = T169.heap) (g := (mkF m 23 #[.val (.long q0), .second, .val (.long q1), .second, .val (.long q2), .second, .val (.long q3), .second, .val (.int p4), .val (.ref b101), .unset, .unset, .unset] [])) rfl (hb hby at_23) (by decide) (by decide)
    obtain ⟨b173, g173⟩ : ∃ z, z = T169.heap.size := ⟨_, rfl⟩
    rw [← g173] at A173 D173 st173
    have ne_b101_b173 : b101 ≠ b173 := Nat.ne_of_lt (Nat.lt_of_lt_of_le F169_0.lt (Nat.le_of_eq g173.symm))
    have g_b173 : n0 ≤ b173 := Nat.le_trans Z171 (Nat.le_of_eq g173.symm)
    have sz_b173 : h0.size ≤ b173 := Nat.le_trans K172.1 (Nat.le_of_eq g173.symm)
    have F174 := F169_0.ext E173
    have F175 := F169_1.ext E173
    have F176 := F169_2.ext E173
    have F177 := F169_3.ext E173
    have Z178 : n0 ≤ h173.size := Nat.le_trans Z171 E173.1
    have K179 : Keep h0 h173 [] := K172.ext E173
    have F180 : Fld Z h173 b173 "com/example/millrace/millrace/queue/JournalClock" "latestMillis" "J" (.long (0 : Int64)) := D173 (Or.inl (hw _ (List.mem_of_getElem? (i := 11) rfl))) (ty := .long) (by decide)
    have F181 : Fld Z h173 b173 "com/example/millrace/millrace/queue/JournalClock" "millis" "J" (.long (0 : Int64)) := D173 (Or.inl (hw _ (List.mem_of_getElem? (i := 13) rfl))) (ty := .long) (by decide)
    have F182 : Fld Z h173 b173 "com/example/millrace/millrace/queue/JournalClock" "leadMillis" "J" (.long (0 : Int64)) := D173 (Or.inl (hw _ (List.mem_of_getElem? (i := 24) rfl))) (ty := .long) (by decide)
    obtain ⟨_, _, ⟨T183, L183, k183, n183⟩, -, X183, ⟨Lc183, hQ183, l183, y183, z183⟩, st183⟩ := X173.specialBack hx (y := (⟨"com/example/millrace/millrace/queue/JournalClock", "<init>", "(JJJ)V"⟩ : MethodName)) rfl hown (mvT hZ (hw _ (List.mem_of_getElem? (i := 25) rfl))) (mvT hZ (hw _ (List.mem_of_getElem? (i := 26) rfl))) (mvT hZ (hw _ (List.mem_of_getElem? (i := 27) rfl))) (by decide) (backOf (W := 1) (rm5 l Z a0 hw [] b173 q0 q1 q2 (0 : Int64) (0 : Int64) (0 : Int64) h173 n0 Z178 A173 F180 F181 F182 g_b173) hZ (hw _ (List.mem_of_getElem? (i := 27) rfl)) (hw _ (List.mem_of_getElem? (i := 2) rfl)) (by decide) (by decide)) (g := (mkF m 31 #[.val (.long q0), .second, .val (.long q1), .second, .val (.long q2), .second, .val (.long q3), .second, .val (.int p4), .val (.ref b101), .unset, .unset, .unset] [(.long q2), (.long q1), (.long q0), (.ref b173), (.ref b173)])) rfl (by rw [hml]; rfl) (Steps.refl _) (a := b173) (argsL := [(.long q0), (.long q1), (.long q2)]) (rest := [(.ref b173)]) (lenOf pd4 rfl) rfl (by show 2 * 0 + _ ≤ _; exact Nat.le_of_eq rfl) (hb hby at_31) (fun _ _ => ⟨rfl, e173, (by decide : 2 + 0 ≤ _), (by decide : 6 + 0 ≤ _)⟩)
    dsimp only [Pt.U, Pt.locs, Pt.cells, Pt.slots] at X183 l183 y183 z183 st183 hQ183
    subst l183 y183 z183
    obtain ⟨rfl, N183q, K183q, F183_0, F183_1, F183_2, F183_3⟩ := hQ183
    have F184 := F174.keep K183q
    have F185 := F175.keep K183q (ninS ne_b101_b173 nin0)
    have F186 := F176.keep K183q (ninS ne_b101_b173 nin0)
    have F187 := F177.keep K183q (ninS ne_b101_b173 nin0)
    have F188 := A173.keep K183q
    have Z189 : n0 ≤ T183.heap.size := Nat.le_trans Z178 K183q.1
    have K190 : Keep h0 T183.heap [] := K179.trans K183q (allS (Or.inr sz_b173) all0)
    have N183 := Fr.app N169 N183q
    obtain ⟨cq191, kq191, q191a, q191b, q191c⟩ := isOf hZ (rfl : T183.heap = T183.heap) F184
    obtain ⟨_, _, ⟨T191, L191, k191, n191⟩, -, X191, ⟨Lc191, hQ191, l191, y191, z191⟩, st191⟩ := X183.virtualBack hx (y := (⟨"com/example/millrace/millrace/queue/JournalClock", "setTo", "(Lcom/example/millrace/millrace/queue/JournalClock;)V"⟩ : MethodName)) (z := (⟨"com/example/millrace/millrace/queue/JournalClock", "setTo", "(Lcom/example/millrace/millrace/queue/JournalClock;)V"⟩ : MethodName)) hown (mvT hZ (hw _ (List.mem_of_getElem? (i := 28) rfl))) (mvT hZ (hw _ (List.mem_of_getElem? (i := 29) rfl))) (notFace_of_selects (args := #[]) (mvT hZ (hw _ (List.mem_of_getElem? (i := 31) rfl)))) (mvT hZ (hw _ (List.mem_of_getElem? (i := 31) rfl))) (mvT hZ (hw _ (List.mem_of_getElem? (i := 30) rfl))) (by decide) (backOf (W := 0) (rm6 l Z a0 hw [] b101 b173 q0 (own_r4 (-9223372036854775808 : Int64) q3) b169_0 b169_1 q1 q2 (T183.heap) n0 Z189 F183_1 F184 F185 F186 F187 (Ne.symm ne_b101_b173) g_b101 F183_2 F183_3) hZ (hw _ (List.mem_of_getElem? (i := 32) rfl)) (hw _ (List.mem_of_getElem? (i := 2) rfl)) (by decide) (by decide)) q191a q191c (g := (mkF m 40 #[.val (.long q0), .second, .val (.long q1), .second, .val (.long q2), .second, .val (.long q3), .second, .val (.int p4), .val (.ref b101), .val (.ref b173), .unset, .unset] [(.ref b173), (.ref b101)])) rfl (by rw [hml]; rfl) (Steps.refl _) (argsL := [(.ref b173)]) (rest := []) (lenOf pd5 rfl) rfl (by show 2 * 0 + _ ≤ _; exact Nat.le_of_eq rfl) (hb hby at_40) (fun _ _ => ⟨rfl, (rfl : T183.heap = T183.heap), (by decide : 2 + 0 ≤ _), (by decide : 6 + 0 ≤ _)⟩)
    dsimp only [Pt.U, Pt.locs, Pt.cells, Pt.slots] at X191 l191 y191 z191 st191 hQ191
    subst l191 y191 z191
    obtain ⟨rfl, N191q, K191q, F191_0, F191_1, F191_2, F191_3⟩ := hQ191
    have F192 := F184.keep K191q
    have F193 := F183_0.keep K191q
    have F194 := F183_1.keep K191q (ninS (Ne.symm ne_b101_b173) nin0)
    have F195 := F183_2.keep K191q (ninS (Ne.symm ne_b101_b173) nin0)
    have F196 := F183_3.keep K191q (ninS (Ne.symm ne_b101_b173) nin0)
    have Z197 : n0 ≤ T191.heap.size := Nat.le_trans Z189 K191q.1
    have K198 : Keep h0 T191.heap [] := K190.trans K191q (allS (Or.inr sz_b101) all0)
    have N191 := Fr.app N183 N191q
    obtain ⟨cq199, kq199, q199a, q199b, q199c⟩ := isOf hZ (rfl : T191.heap = T191.heap) F191_0
    obtain ⟨_, _, ⟨T199, L199, k199, n199⟩, -, X199, ⟨Lc199, hQ199, l199, y199, z199⟩, st199⟩ := X191.virtualBack hx (y := (⟨"com/example/millrace/millrace/queue/JournalClock", "latestMillis", "()J"⟩ : MethodName)) (z := (⟨"com/example/millrace/millrace/queue/JournalClock", "latestMillis", "()J"⟩ : MethodName)) hown (mvT hZ (hw _ (List.mem_of_getElem? (i := 33) rfl))) (mvT hZ (hw _ (List.mem_of_getElem? (i := 34) rfl))) (notFace_of_selects (args := #[]) (mvT hZ (hw _ (List.mem_of_getElem? (i := 36) rfl)))) (mvT hZ (hw _ (List.mem_of_getElem? (i := 36) rfl))) (mvT hZ (hw _ (List.mem_of_getElem? (i := 35) rfl))) (by decide) (backOf (W := 0) (rm7 l Z a0 hw [] b101 q0 (T191.heap) n0 Z197 F191_1) hZ (hw _ (List.mem_of_getElem? (i := 37) rfl)) (hw _ (List.mem_of_getElem? (i := 2) rfl)) (by decide) (by decide)) q199a q199c (g := (mkF m 45 #[.val (.long q0), .second, .val (.long q1), .second, .val (.long q2), .second, .val (.long q3), .second, .val (.int p4), .val (.ref b101), .val (.ref b173), .unset, .unset] [(.ref b101)])) rfl (by rw [hml]; rfl) (Steps.refl _) (argsL := []) (rest := []) (lenOf pd6 rfl) rfl (by show 2 * 0 + _ ≤ _; exact Nat.le_of_eq rfl) (hb hby at_45) (fun _ _ => ⟨rfl, (rfl : T191.heap = T191.heap), (by decide : 2 + 0 ≤ _), (by decide : 6 + 0 ≤ _)⟩)
    dsimp only [Pt.U, Pt.locs, Pt.cells, Pt.slots] at X199 l199 y199 z199 st199 hQ199
    subst l199 y199 z199
    obtain ⟨rfl, N199q, e199⟩ := hQ199
    have N199 := Fr.app N191 N199q
    obtain ⟨v16, hv16⟩ : ∃ z : Int32, z = (if q2 = q2 then (1 : Int32) else (0 : Int32)) := ⟨_, rfl⟩
    obtain ⟨v17, hv17⟩ : ∃ z : Int32, z = (if q1 = q1 then v16 else (0 : Int32)) := ⟨_, rfl⟩
    obtain ⟨v18, hv18⟩ : ∃ z : Int32, z = (if q0 = q0 then v17 else (0 : Int32)) := ⟨_, rfl⟩
    obtain ⟨T210, lc210, X210, N210, e210, st210⟩ := own_mrg (n0 := n0) (h := T191.heap) (g := (mkF m 50 #[.val (.long q0), .second, .val (.long q1), .second, .val (.long q2), .second, .val (.long q3), .second, .val (.int p4), .val (.ref b101), .val (.ref b173), .unset, .unset] [(.int (lcmpW q0 q0))])) (g' := (mkF m 79 #[.val (.long q0), .second, .val (.long q1), .second, .val (.long q2), .second, .val (.long q3), .second, .val (.int p4), .val (.ref b101), .val (.ref b173), .unset, .unset] [(.int v18)])) X199 (by
      by_cases hc50_13 : q0 = q0
      · obtain ⟨cq200, kq200, q200a, q200b, q200c⟩ := isOf hZ e199 F191_0
        obtain ⟨_, _, ⟨T200, L200, k200, n200⟩, -, X200, ⟨Lc200, hQ200, l200, y200, z200⟩, st200⟩ := X199.virtualBack hx (y := (⟨"com/example/millrace/millrace/queue/JournalClock", "millis", "()J"⟩ : MethodName)) (z := (⟨"com/example/millrace/millrace/queue/JournalClock", "millis", "()J"⟩ : MethodName)) hown (mvT hZ (hw _ (List.mem_of_getElem? (i := 38) rfl))) (mvT hZ (hw _ (List.mem_of_getElem? (i := 39) rfl))) (notFace_of_selects (args := #[]) (mvT hZ (hw _ (List.mem_of_getElem? (i := 41) rfl)))) (mvT hZ (hw _ (List.mem_of_getElem? (i := 41) rfl))) (mvT hZ (hw _ (List.mem_of_getElem? (i := 40) rfl))) (by decide) (backOf (W := 0) (rm8 l Z a0 hw [] b101 q1 (T191.heap) n0 Z197 F191_2) hZ (hw _ (List.mem_of_getElem? (i := 42) rfl)) (hw _ (List.mem_of_getElem? (i := 2) rfl)) (by decide) (by decide)) q200a q200c (g := (mkF m 55 #[.val (.long q0), .second, .val (.long q1), .second, .val (.long q2), .second, .val (.long q3), .second, .val (.int p4), .val (.ref b101), .val (.ref b173), .unset, .unset] [(.ref b101)])) rfl (by rw [hml]; rfl) (Steps.refl _) (argsL := []) (rest := []) (lenOf pd6 rfl) rfl (by show 2 * 0 + _ ≤ _; exact Nat.le_of_eq rfl) (hb hby at_55) (fun _ _ => ⟨rfl, e199, (by decide : 2 + 0 ≤ _), (by decide : 6 + 0 ≤ _)⟩)
        dsimp only [Pt.U, Pt.locs, Pt.cells, Pt.slots] at X200 l200 y200 z200 st200 hQ200
        subst l200 y200 z200
        obtain ⟨rfl, N200q, e200⟩ := hQ200
        have N200 := Fr.app N199 N200q
        obtain ⟨T207, lc207, X207, N207, e207, st207⟩ := own_mrg (n0 := n0) (h := T191.heap) (g := (mkF m 60 #[.val (.long q0), .second, .val (.long q1), .second, .val (.long q2), .second, .val (.long q3), .second, .val (.int p4), .val (.ref b101), .val (.ref b173), .unset, .unset] [(.int (lcmpW q1 q1))])) (g' := (mkF m 79 #[.val (.long q0), .second, .val (.long q1), .second, .val (.long q2), .second, .val (.long q3), .second, .val (.int p4), .val (.ref b101), .val (.ref b173), .unset, .unset] [(.int v17)])) X200 (by
          by_cases hc60_14 : q1 = q1
          · obtain ⟨cq201, kq201, q201a, q201b, q201c⟩ := isOf hZ e200 F191_0
            obtain ⟨_, _, ⟨T201, L201, k201, n201⟩, -, X201, ⟨Lc201, hQ201, l201, y201, z201⟩, st201⟩ := X200.virtualBack hx (y := (⟨"com/example/millrace/millrace/queue/JournalClock", "leadMillis", "()J"⟩ : MethodName)) (z := (⟨"com/example/millrace/millrace/queue/JournalClock", "leadMillis", "()J"⟩ : MethodName)) hown (mvT hZ (hw _ (List.mem_of_getElem? (i := 43) rfl))) (mvT hZ (hw _ (List.mem_of_getElem? (i := 44) rfl))) (notFace_of_selects (args := #[]) (mvT hZ (hw _ (List.mem_of_getElem? (i := 46) rfl)))) (mvT hZ (hw _ (List.mem_of_getElem? (i := 46) rfl))) (mvT hZ (hw _ (List.mem_of_getElem? (i := 45) rfl))) (by decide) (backOf (W := 0) (rm9 l Z a0 hw [] b101 q2 (T191.heap) n0 Z197 F191_3) hZ (hw _ (List.mem_of_getElem? (i := 47) rfl)) (hw _ (List.mem_of_getElem? (i := 2) rfl)) (by decide) (by decide)) q201a q201c (g := (mkF m 65 #[.val (.long q0), .second, .val (.long q1), .second, .val (.long q2), .second, .val (.long q3), .second, .val (.int p4), .val (.ref b101), .val (.ref b173), .unset, .unset] [(.ref b101)])) rfl (by rw [hml]; rfl) (Steps.refl _) (argsL := []) (rest := []) (lenOf pd6 rfl) rfl (by show 2 * 0 + _ ≤ _; exact Nat.le_of_eq rfl) (hb hby at_65) (fun _ _ => ⟨rfl, e200, (by decide : 2 + 0 ≤ _), (by decide : 6 + 0 ≤ _)⟩)
            dsimp only [Pt.U, Pt.locs, Pt.cells, Pt.slots] at X201 l201 y201 z201 st201 hQ201
            subst l201 y201 z201
            obtain ⟨rfl, N201q, e201⟩ := hQ201
            have N201 := Fr.app N200 N201q
            obtain ⟨T204, lc204, X204, N204, e204, st204⟩ := own_mrg (n0 := n0) (h := T191.heap) (g := (mkF m 71 #[.val (.long q0), .second, .val (.long q1), .second, .val (.long q2), .second, .val (.long q3), .second, .val (.int p4), .val (.ref b101), .val (.ref b173), .unset, .unset] [(.int (lcmpW q2 q2))])) (g' := (mkF m 79 #[.val (.long q0), .second, .val (.long q1), .second, .val (.long q2), .second, .val (.long q3), .second, .val (.int p4), .val (.ref b101), .val (.ref b173), .unset, .unset] [(.int v16)])) X201 (by
              by_cases hc71_15 : q2 = q2
              · have hgo202 : ∀ t, Steps p.tables e below (T201.setTop (mkF m 79 #[.val (.long q0), .second, .val (.long q1), .second, .val (.long q2), .second, .val (.long q3), .second, .val (.int p4), .val (.ref b101), .val (.ref b173), .unset, .unset] [(.int (1 : Int32))])) t → Steps p.tables e below (T201.setTop (mkF m 71 #[.val (.long q0), .second, .val (.long q1), .second, .val (.long q2), .second, .val (.long q3), .second, .val (.int p4), .val (.ref b101), .val (.ref b173), .unset, .unset] [(.int (lcmpW q2 q2))])) t := by
                  intro t kt
                  show Steps p.tables e below (T201.setTop (mkF m 71 #[.val (.long q0), .second, .val (.long q1), .second, .val (.long q2), .second, .val (.long q3), .second, .val (.int p4), .val (.ref b101), .val (.ref b173), .unset, .unset] [(.int (lcmpW q2 q2))])) _
                  refine XS.ifNo X201.here hx rfl (hb hby at_71) rfl ((if0 _ _).trans (teq (own_lc_eq hc71_15)).2) ?_
                  show Steps p.tables e below (T201.setTop (mkF m 74 #[.val (.long q0), .second, .val (.long q1), .second, .val (.long q2), .second, .val (.long q3), .second, .val (.int p4), .val (.ref b101), .val (.ref b173), .unset, .unset] [])) _
                  refine XS.iconst X201.here hx rfl (hb hby at_74) ?_
                  show Steps p.tables e below (T201.setTop (mkF m 75 #[.val (.long q0), .second, .val (.long q1), .second, .val (.long q2), .second, .val (.long q3), .second, .val (.int p4), .val (.ref b101), .val (.ref b173), .unset, .unset] [(.int (1 : Int32))])) _
                  refine XS.goto X201.here hx rfl (pc0 := 75) (pc' := 79) rfl (hb hby at_75) (by decide) (by decide) ?_
                  exact kt
                refine own_arm hgo202 ?_
                exact own_armEnd X201 N201 e201 (by rw [hv16.trans (if_pos hc71_15)])
              · have hgo203 : ∀ t, Steps p.tables e below (T201.setTop (mkF m 79 #[.val (.long q0), .second, .val (.long q1), .second, .val (.long q2), .second, .val (.long q3), .second, .val (.int p4), .val (.ref b101), .val (.ref b173), .unset, .unset] [(.int (0 : Int32))])) t → Steps p.tables e below (T201.setTop (mkF m 71 #[.val (.long q0), .second, .val (.long q1), .second, .val (.long q2), .second, .val (.long q3), .second, .val (.int p4), .val (.ref b101), .val (.ref b173), .unset, .unset] [(.int (lcmpW q2 q2))])) t := by
                  intro t kt
                  show Steps p.tables e below (T201.setTop (mkF m 71 #[.val (.long q0), .second, .val (.long q1), .second, .val (.long q2), .second, .val (.long q3), .second, .val (.int p4), .val (.ref b101), .val (.ref b173), .unset, .unset] [(.int (lcmpW q2 q2))])) _
                  refine XS.ifYes X201.here hx rfl (pc0 := 71) (pc' := 78) rfl (hb hby at_71) rfl ((if0 _ _).trans (feq (own_lc_neq hc71_15)).2) (by decide) (by decide) ?_
                  show Steps p.tables e below (T201.setTop (mkF m 78 #[.val (.long q0), .second, .val (.long q1), .second, .val (.long q2), .second, .val (.long q3), .second, .val (.int p4), .val (.ref b101), .val (.ref b173), .unset, .unset] [])) _
                  refine XS.iconst X201.here hx rfl (hb hby at_78) ?_
                  exact kt
                refine own_arm hgo203 ?_
                exact own_armEnd X201 N201 e201 (by rw [hv16.trans (if_neg hc71_15)]))
            have hgo205 : ∀ t, Steps p.tables e below (T204.setTop (mkF m 79 #[.val (.long q0), .second, .val (.long q1), .second, .val (.long q2), .second, .val (.long q3), .second, .val (.int p4), .val (.ref b101), .val (.ref b173), .unset, .unset] [(.int v16)])) t → Steps p.tables e below (T200.setTop (mkF m 60 #[.val (.long q0), .second, .val (.long q1), .second, .val (.long q2), .second, .val (.long q3), .second, .val (.int p4), .val (.ref b101), .val (.ref b173), .unset, .unset] [(.int (lcmpW q1 q1))])) t := by
              intro t kt
              show Steps p.tables e below (T200.setTop (mkF m 60 #[.val (.long q0), .second, .val (.long q1), .second, .val (.long q2), .second, .val (.long q3), .second, .val (.int p4), .val (.ref b101), .val (.ref b173), .unset, .unset] [(.int (lcmpW q1 q1))])) _
              refine XS.ifNo X200.here hx rfl (hb hby at_60) rfl ((if0 _ _).trans (teq (own_lc_eq hc60_14)).2) ?_
              show Steps p.tables e below (T200.setTop (mkF m 63 #[.val (.long q0), .second, .val (.long q1), .second, .val (.long q2), .second, .val (.long q3), .second, .val (.int p4), .val (.ref b101), .val (.ref b173), .unset, .unset] [])) _
              refine XS.aload X200.here hx rfl (hb hby at_63) rfl rfl ?_
              show Steps p.tables e below (T200.setTop (mkF m 65 #[.val (.long q0), .second, .val (.long q1), .second, .val (.long q2), .second, .val (.long q3), .second, .val (.int p4), .val (.ref b101), .val (.ref b173), .unset, .unset] [(.ref b101)])) _
              refine st201.trans ?_
              show Steps p.tables e below (T201.setTop (mkF m 68 #[.val (.long q0), .second, .val (.long q1), .second, .val (.long q2), .second, .val (.long q3), .second, .val (.int p4), .val (.ref b101), .val (.ref b173), .unset, .unset] [(.long q2)])) _
              refine XS.lload X201.here hx rfl (hb hby at_68) rfl ?_
              show Steps p.tables e below (T201.setTop (mkF m 70 #[.val (.long q0), .second, .val (.long q1), .second, .val (.long q2), .second, .val (.long q3), .second, .val (.int p4), .val (.ref b101), .val (.ref b173), .unset, .unset] [(.long q2), (.long q2)])) _
              refine XS.lcmp X201.here hx rfl (hb hby at_70) rfl ?_
              show Steps p.tables e below (T201.setTop (mkF m 71 #[.val (.long q0), .second, .val (.long q1), .second, .val (.long q2), .second, .val (.long q3), .second, .val (.int p4), .val (.ref b101), .val (.ref b173), .unset, .unset] [(.int (lcmpW q2 q2))])) _
              refine st204 _ ?_
              exact kt
            refine own_arm hgo205 ?_
            exact own_armEnd X204 N204 e204 (by rw [hv17.trans (if_pos hc60_14)])
          · have hgo206 : ∀ t, Steps p.tables e below (T200.setTop (mkF m 79 #[.val (.long q0), .second, .val (.long q1), .second, .val (.long q2), .second, .val (.long q3), .second, .val (.int p4), .val (.ref b101), .val (.ref b173), .unset, .unset] [(.int (0 : Int32))])) t → Steps p.tables e below (T200.setTop (mkF m 60 #[.val (.long q0), .second, .val (.long q1), .second, .val (.long q2), .second, .val (.long q3), .second, .val (.int p4), .val (.ref b101), .val (.ref b173), .unset, .unset] [(.int (lcmpW q1 q1))])) t := by
              intro t kt
              show Steps p.tables e below (T200.setTop (mkF m 60 #[.val (.long q0), .second, .val (.long q1), .second, .val (.long q2), .second, .val (.long q3), .second, .val (.int p4), .val (.ref b101), .val (.ref b173), .unset, .unset] [(.int (lcmpW q1 q1))])) _
              refine XS.ifYes X200.here hx rfl (pc0 := 60) (pc' := 78) rfl (hb hby at_60) rfl ((if0 _ _).trans (feq (own_lc_neq hc60_14)).2) (by decide) (by decide) ?_
              show Steps p.tables e below (T200.setTop (mkF m 78 #[.val (.long q0), .second, .val (.long q1), .second, .val (.long q2), .second, .val (.long q3), .second, .val (.int p4), .val (.ref b101), .val (.ref b173), .unset, .unset] [])) _
              refine XS.iconst X200.here hx rfl (hb hby at_78) ?_
              exact kt
            refine own_arm hgo206 ?_
            exact own_armEnd X200 N200 e200 (by rw [hv17.trans (if_neg hc60_14)]))
        have hgo208 : ∀ t, Steps p.tables e below (T207.setTop (mkF m 79 #[.val (.long q0), .second, .val (.long q1), .second, .val (.long q2), .second, .val (.long q3), .second, .val (.int p4), .val (.ref b101), .val (.ref b173), .unset, .unset] [(.int v17)])) t → Steps p.tables e below (T199.setTop (mkF m 50 #[.val (.long q0), .second, .val (.long q1), .second, .val (.long q2), .second, .val (.long q3), .second, .val (.int p4), .val (.ref b101), .val (.ref b173), .unset, .unset] [(.int (lcmpW q0 q0))])) t := by
          intro t kt
          show Steps p.tables e below (T199.setTop (mkF m 50 #[.val (.long q0), .second, .val (.long q1), .second, .val (.long q2), .second, .val (.long q3), .second, .val (.int p4), .val (.ref b101), .val (.ref b173), .unset, .unset] [(.int (lcmpW q0 q0))])) _
          refine XS.ifNo X199.here hx rfl (hb hby at_50) rfl ((if0 _ _).trans (teq (own_lc_eq hc50_13)).2) ?_
          show Steps p.tables e below (T199.setTop (mkF m 53 #[.val (.long q0), .second, .val (.long q1), .second, .val (.long q2), .second, .val (.long q3), .second, .val (.int p4), .val (.ref b101), .val (.ref b173), .unset, .unset] [])) _
          refine XS.aload X199.here hx rfl (hb hby at_53) rfl rfl ?_
          show Steps p.tables e below (T199.setTop (mkF m 55 #[.val (.long q0), .second, .val (.long q1), .second, .val (.long q2), .second, .val (.long q3), .second, .val (.int p4), .val (.ref b101), .val (.ref b173), .unset, .unset] [(.ref b101)])) _
          refine st200.trans ?_
          show Steps p.tables e below (T200.setTop (mkF m 58 #[.val (.long q0), .second, .val (.long q1), .second, .val (.long q2), .second, .val (.long q3), .second, .val (.int p4), .val (.ref b101), .val (.ref b173), .unset, .unset] [(.long q1)])) _
          refine XS.lloadN X200.here hx rfl (hb hby at_58) rfl ?_
          show Steps p.tables e below (T200.setTop (mkF m 59 #[.val (.long q0), .second, .val (.long q1), .second, .val (.long q2), .second, .val (.long q3), .second, .val (.int p4), .val (.ref b101), .val (.ref b173), .unset, .unset] [(.long q1), (.long q1)])) _
          refine XS.lcmp X200.here hx rfl (hb hby at_59) rfl ?_
          show Steps p.tables e below (T200.setTop (mkF m 60 #[.val (.long q0), .second, .val (.long q1), .second, .val (.long q2), .second, .val (.long q3), .second, .val (.int p4), .val (.ref b101), .val (.ref b173), .unset, .unset] [(.int (lcmpW q1 q1))])) _
          refine st207 _ ?_
          exact kt
        refine own_arm hgo208 ?_
        exact own_armEnd X207 N207 e207 (by rw [hv18.trans (if_pos hc50_13)])
      · have hgo209 : ∀ t, Steps p.tables e below (T199.setTop (mkF m 79 #[.val (.long q0), .second, .val (.long q1), .second, .val (.long q2), .second, .val (.long q3), .second, .val (.int p4), .val (.ref b101), .val (.ref b173), .unset, .unset] [(.int (0 : Int32))])) t → Steps p.tables e below (T199.setTop (mkF m 50 #[.val (.long q0), .second, .val (.long q1), .second, .val (.long q2), .second, .val (.long q3), .second, .val (.int p4), .val (.ref b101), .val (.ref b173), .unset, .unset] [(.int (lcmpW q0 q0))])) t := by
          intro t kt
          show Steps p.tables e below (T199.setTop (mkF m 50 #[.val (.long q0), .second, .val (.long q1), .second, .val (.long q2), .second, .val (.long q3), .second, .val (.int p4), .val (.ref b101), .val (.ref b173), .unset, .unset] [(.int (lcmpW q0 q0))])) _
          refine XS.ifYes X199.here hx rfl (pc0 := 50) (pc' := 78) rfl (hb hby at_50) rfl ((if0 _ _).trans (feq (own_lc_neq hc50_13)).2) (by decide) (by decide) ?_
          show Steps p.tables e below (T199.setTop (mkF m 78 #[.val (.long q0), .second, .val (.long q1), .second, .val (.long q2), .second, .val (.long q3), .second, .val (.int p4), .val (.ref b101), .val (.ref b173), .unset, .unset] [])) _
          refine XS.iconst X199.here hx rfl (hb hby at_78) ?_
          exact kt
        refine own_arm hgo209 ?_
        exact own_armEnd X199 N199 e199 (by rw [hv18.trans (if_neg hc50_13)]))
    obtain ⟨cq211, kq211, q211a, q211b, q211c⟩ := isOf hZ e210 F193
    obtain ⟨_, _, ⟨T211, L211, k211, n211⟩, -, X211, ⟨Lc211, hQ211, l211, y211, z211⟩, st211⟩ := X210.virtualBack hx (y := (⟨"com/example/millrace/millrace/queue/JournalClock", "latestMillis", "()J"⟩ : MethodName)) (z := (⟨"com/example/millrace/millrace/queue/JournalClock", "latestMillis", "()J"⟩ : MethodName)) hown (mvT hZ (hw _ (List.mem_of_getElem? (i := 33) rfl))) (mvT hZ (hw _ (List.mem_of_getElem? (i := 34) rfl))) (notFace_of_selects (args := #[]) (mvT hZ (hw _ (List.mem_of_getElem? (i := 36) rfl)))) (mvT hZ (hw _ (List.mem_of_getElem? (i := 36) rfl))) (mvT hZ (hw _ (List.mem_of_getElem? (i := 35) rfl))) (by decide) (backOf (W := 0) (rm7 l Z a0 hw [] b173 q0 (T191.heap) n0 Z197 F194) hZ (hw _ (List.mem_of_getElem? (i := 37) rfl)) (hw _ (List.mem_of_getElem? (i := 2) rfl)) (by decide) (by decide)) q211a q211c (g := (mkF m 83 #[.val (.long q0), .second, .val (.long q1), .second, .val (.long q2), .second, .val (.long q3), .second, .val (.int p4), .val (.ref b101), .val (.ref b173), .val (.int v18), .unset] [(.ref b173)])) rfl (by rw [hml]; rfl) (Steps.refl _) (argsL := []) (rest := []) (lenOf pd6 rfl) rfl (by show 2 * 0 + _ ≤ _; exact Nat.le_of_eq rfl) (hb hby at_83) (fun _ _ => ⟨rfl, e210, (by decide : 2 + 0 ≤ _), (by decide : 6 + 0 ≤ _)⟩)
    dsimp only [Pt.U, Pt.locs, Pt.cells, Pt.slots] at X211 l211 y211 z211 st211 hQ211
    subst l211 y211 z211
    obtain ⟨rfl, N211q, e211⟩ := hQ211
    have N211 := Fr.app N210 N211q
    obtain ⟨T222, lc222, X222, N222, e222, st222⟩ := own_mrg (n0 := n0) (h := T191.heap) (g := (mkF m 88 #[.val (.long q0), .second, .val (.long q1), .second, .val (.long q2), .second, .val (.long q3), .second, .val (.int p4), .val (.ref b101), .val (.ref b173), .val (.int v18), .unset] [(.int (lcmpW q0 q0))])) (g' := (mkF m 117 #[.val (.long q0), .second, .val (.long q1), .second, .val (.long q2), .second, .val (.long q3), .second, .val (.int p4), .val (.ref b101), .val (.ref b173), .val (.int v18), .unset] [(.int v18)])) X211 (by
      by_cases hc88_19 : q0 = q0
      · obtain ⟨cq212, kq212, q212a, q212b, q212c⟩ := isOf hZ e211 F193
        obtain ⟨_, _, ⟨T212, L212, k212, n212⟩, -, X212, ⟨Lc212, hQ212, l212, y212, z212⟩, st212⟩ := X211.virtualBack hx (y := (⟨"com/example/millrace/millrace/queue/JournalClock", "millis", "()J"⟩ : MethodName)) (z := (⟨"com/example/millrace/millrace/queue/JournalClock", "millis", "()J"⟩ : MethodName)) hown (mvT hZ (hw _ (List.mem_of_getElem? (i := 38) rfl))) (mvT hZ (hw _ (List.mem_of_getElem? (i := 39) rfl))) (notFace_of_selects (args := #[]) (mvT hZ (hw _ (List.mem_of_getElem? (i := 41) rfl)))) (mvT hZ (hw _ (List.mem_of_getElem? (i := 41) rfl))) (mvT hZ (hw _ (List.mem_of_getElem? (i := 40) rfl))) (by decide) (backOf (W := 0) (rm8 l Z a0 hw [] b173 q1 (T191.heap) n0 Z197 F195) hZ (hw _ (List.mem_of_getElem? (i := 42) rfl)) (hw _ (List.mem_of_getElem? (i := 2) rfl)) (by decide) (by decide)) q212a q212c (g := (mkF m 93 #[.val (.long q0), .second, .val (.long q1), .second, .val (.long q2), .second, .val (.long q3), .second, .val (.int p4), .val (.ref b101), .val (.ref b173), .val (.int v18), .unset] [(.ref b173)])) rfl (by rw [hml]; rfl) (Steps.refl _) (argsL := []) (rest := []) (lenOf pd6 rfl) rfl (by show 2 * 0 + _ ≤ _; exact Nat.le_of_eq rfl) (hb hby at_93) (fun _ _ => ⟨rfl, e211, (by decide : 2 + 0 ≤ _), (by decide : 6 + 0 ≤ _)⟩)
        dsimp only [Pt.U, Pt.locs, Pt.cells, Pt.slots] at X212 l212 y212 z212 st212 hQ212
        subst l212 y212 z212
        obtain ⟨rfl, N212q, e212⟩ := hQ212
        have N212 := Fr.app N211 N212q
        obtain ⟨T219, lc219, X219, N219, e219, st219⟩ := own_mrg (n0 := n0) (h := T191.heap) (g := (mkF m 98 #[.val (.long q0), .second, .val (.long q1), .second, .val (.long q2), .second, .val (.long q3), .second, .val (.int p4), .val (.ref b101), .val (.ref b173), .val (.int v18), .unset] [(.int (lcmpW q1 q1))])) (g' := (mkF m 117 #[.val (.long q0), .second, .val (.long q1), .second, .val (.long q2), .second, .val (.long q3), .second, .val (.int p4), .val (.ref b101), .val (.ref b173), .val (.int v18), .unset] [(.int v17)])) X212 (by
          by_cases hc98_20 : q1 = q1
          · obtain ⟨cq213, kq213, q213a, q213b, q213c⟩ := isOf hZ e212 F193
            obtain ⟨_, _, ⟨T213, L213, k213, n213⟩, -, X213, ⟨Lc213, hQ213, l213, y213, z213⟩, st213⟩ := X212.virtualBack hx (y := (⟨"com/example/millrace/millrace/queue/JournalClock", "leadMillis", "()J"⟩ : MethodName)) (z := (⟨"com/example/millrace/millrace/queue/JournalClock", "leadMillis", "()J"⟩ : MethodName)) hown (mvT hZ (hw _ (List.mem_of_getElem? (i := 43) rfl))) (mvT hZ (hw _ (List.mem_of_getElem? (i := 44) rfl))) (notFace_of_selects (args := #[]) (mvT hZ (hw _ (List.mem_of_getElem? (i := 46) rfl)))) (mvT hZ (hw _ (List.mem_of_getElem? (i := 46) rfl))) (mvT hZ (hw _ (List.mem_of_getElem? (i := 45) rfl))) (by decide) (backOf (W := 0) (rm9 l Z a0 hw [] b173 q2 (T191.heap) n0 Z197 F196) hZ (hw _ (List.mem_of_getElem? (i := 47) rfl)) (hw _ (List.mem_of_getElem? (i := 2) rfl)) (by decide) (by decide)) q213a q213c (g := (mkF m 103 #[.val (.long q0), .second, .val (.long q1), .second, .val (.long q2), .second, .val (.long q3), .second, .val (.int p4), .val (.ref b101), .val (.ref b173), .val (.int v18), .unset] [(.ref b173)])) rfl (by rw [hml]; rfl) (Steps.refl _) (argsL := []) (rest := []) (lenOf pd6 rfl) rfl (by show 2 * 0 + _ ≤ _; exact Nat.le_of_eq rfl) (hb hby at_103) (fun _ _ => ⟨rfl, e212, (by decide : 2 + 0 ≤ _), (by decide : 6 + 0 ≤ _)⟩)
            dsimp only [Pt.U, Pt.locs, Pt.cells, Pt.slots] at X213 l213 y213 z213 st213 hQ213
            subst l213 y213 z213
            obtain ⟨rfl, N213q, e213⟩ := hQ213
            have N213 := Fr.app N212 N213q
            obtain ⟨T216, lc216, X216, N216, e216, st216⟩ := own_mrg (n0 := n0) (h := T191.heap) (g := (mkF m 109 #[.val (.long q0), .second, .val (.long q1), .second, .val (.long q2), .second, .val (.long q3), .second, .val (.int p4), .val (.ref b101), .val (.ref b173), .val (.int v18), .unset] [(.int (lcmpW q2 q2))])) (g' := (mkF m 117 #[.val (.long q0), .second, .val (.long q1), .second, .val (.long q2), .second, .val (.long q3), .second, .val (.int p4), .val (.ref b101), .val (.ref b173), .val (.int v18), .unset] [(.int v16)])) X213 (by
              by_cases hc109_21 : q2 = q2
              · have hgo214 : ∀ t, Steps p.tables e below (T213.setTop (mkF m 117 #[.val (.long q0), .second, .val (.long q1), .second, .val (.long q2), .second, .val (.long q3), .second, .val (.int p4), .val (.ref b101), .val (.ref b173), .val (.int v18), .unset] [(.int (1 : Int32))])) t → Steps p.tables e below (T213.setTop (mkF m 109 #[.val (.long q0), .second, .val (.long q1), .second, .val (.long q2), .second, .val (.long q3), .second, .val (.int p4), .val (.ref b101), .val (.ref b173), .val (.int v18), .unset] [(.int (lcmpW q2 q2))])) t := by
                  intro t kt
                  show Steps p.tables e below (T213.setTop (mkF m 109 #[.val (.long q0), .second, .val (.long q1), .second, .val (.long q2), .second, .val (.long q3), .second, .val (.int p4), .val (.ref b101), .val (.ref b173), .val (.int v18), .unset] [(.int (lcmpW q2 q2))])) _
                  refine XS.ifNo X213.here hx rfl (hb hby at_109) rfl ((if0 _ _).trans (teq (own_lc_eq hc109_21)).2) ?_
                  show Steps p.tables e below (T213.setTop (mkF m 112 #[.val (.long q0), .second, .val (.long q1), .second, .val (.long q2), .second, .val (.long q3), .second, .val (.int p4), .val (.ref b101), .val (.ref b173), .val (.int v18), .unset] [])) _
                  refine XS.iconst X213.here hx rfl (hb hby at_112) ?_
                  show Steps p.tables e below (T213.setTop (mkF m 113 #[.val (.long q0), .second, .val (.long q1), .second, .val (.long q2), .second, .val (.long q3), .second, .val (.int p4), .val (.ref b101), .val (.ref b173), .val (.int v18), .unset] [(.int (1 : Int32))])) _
                  refine XS.goto X213.here hx rfl (pc0 := 113) (pc' := 117) rfl (hb hby at_113) (by decide) (by decide) ?_
                  exact kt
                refine own_arm hgo214 ?_
                exact own_armEnd X213 N213 e213 (by rw [hv16.trans (if_pos hc109_21)])
              · have hgo215 : ∀ t, Steps p.tables e below (T213.setTop (mkF m 117 #[.val (.long q0), .second, .val (.long q1), .second, .val (.long q2), .second, .val (.long q3), .second, .val (.int p4), .val (.ref b101), .val (.ref b173), .val (.int v18), .unset] [(.int (0 : Int32))])) t → Steps p.tables e below (T213.setTop (mkF m 109 #[.val (.long q0), .second, .val (.long q1), .second, .val (.long q2), .second, .val (.long q3), .second, .val (.int p4), .val (.ref b101), .val (.ref b173), .val (.int v18), .unset] [(.int (lcmpW q2 q2))])) t := by
                  intro t kt
                  show Steps p.tables e below (T213.setTop (mkF m 109 #[.val (.long q0), .second, .val (.long q1), .second, .val (.long q2), .second, .val (.long q3), .second, .val (.int p4), .val (.ref b101), .val (.ref b173), .val (.int v18), .unset] [(.int (lcmpW q2 q2))])) _
                  refine XS.ifYes X213.here hx rfl (pc0 := 109) (pc' := 116) rfl (hb hby at_109) rfl ((if0 _ _).trans (feq (own_lc_neq hc109_21)).2) (by decide) (by decide) ?_
                  show Steps p.tables e below (T213.setTop (mkF m 116 #[.val (.long q0), .second, .val (.long q1), .second, .val (.long q2), .second, .val (.long q3), .second, .val (.int p4), .val (.ref b101), .val (.ref b173), .val (.int v18), .unset] [])) _
                  refine XS.iconst X213.here hx rfl (hb hby at_116) ?_
                  exact kt
                refine own_arm hgo215 ?_
                exact own_armEnd X213 N213 e213 (by rw [hv16.trans (if_neg hc109_21)]))
            have hgo217 : ∀ t, Steps p.tables e below (T216.setTop (mkF m 117 #[.val (.long q0), .second, .val (.long q1), .second, .val (.long q2), .second, .val (.long q3), .second, .val (.int p4), .val (.ref b101), .val (.ref b173), .val (.int v18), .unset] [(.int v16)])) t → Steps p.tables e below (T212.setTop (mkF m 98 #[.val (.long q0), .second, .val (.long q1), .second, .val (.long q2), .second, .val (.long q3), .second, .val (.int p4), .val (.ref b101), .val (.ref b173), .val (.int v18), .unset] [(.int (lcmpW q1 q1))])) t := by
              intro t kt
              show Steps p.tables e below (T212.setTop (mkF m 98 #[.val (.long q0), .second, .val (.long q1), .second, .val (.long q2), .second, .val (.long q3), .second, .val (.int p4), .val (.ref b101), .val (.ref b173), .val (.int v18), .unset] [(.int (lcmpW q1 q1))])) _
              refine XS.ifNo X212.here hx rfl (hb hby at_98) rfl ((if0 _ _).trans (teq (own_lc_eq hc98_20)).2) ?_
              show Steps p.tables e below (T212.setTop (mkF m 101 #[.val (.long q0), .second, .val (.long q1), .second, .val (.long q2), .second, .val (.long q3), .second, .val (.int p4), .val (.ref b101), .val (.ref b173), .val (.int v18), .unset] [])) _
              refine XS.aload X212.here hx rfl (hb hby at_101) rfl rfl ?_
              show Steps p.tables e below (T212.setTop (mkF m 103 #[.val (.long q0), .second, .val (.long q1), .second, .val (.long q2), .second, .val (.long q3), .second, .val (.int p4), .val (.ref b101), .val (.ref b173), .val (.int v18), .unset] [(.ref b173)])) _
              refine st213.trans ?_
              show Steps p.tables e below (T213.setTop (mkF m 106 #[.val (.long q0), .second, .val (.long q1), .second, .val (.long q2), .second, .val (.long q3), .second, .val (.int p4), .val (.ref b101), .val (.ref b173), .val (.int v18), .unset] [(.long q2)])) _
              refine XS.lload X213.here hx rfl (hb hby at_106) rfl ?_
              show Steps p.tables e below (T213.setTop (mkF m 108 #[.val (.long q0), .second, .val (.long q1), .second, .val (.long q2), .second, .val (.long q3), .second, .val (.int p4), .val (.ref b101), .val (.ref b173), .val (.int v18), .unset] [(.long q2), (.long q2)])) _
              refine XS.lcmp X213.here hx rfl (hb hby at_108) rfl ?_
              show Steps p.tables e below (T213.setTop (mkF m 109 #[.val (.long q0), .second, .val (.long q1), .second, .val (.long q2), .second, .val (.long q3), .second, .val (.int p4), .val (.ref b101), .val (.ref b173), .val (.int v18), .unset] [(.int (lcmpW q2 q2))])) _
              refine st216 _ ?_
              exact kt
            refine own_arm hgo217 ?_
            exact own_armEnd X216 N216 e216 (by rw [hv17.trans (if_pos hc98_20)])
          · have hgo218 : ∀ t, Steps p.tables e below (T212.setTop (mkF m 117 #[.val (.long q0), .second, .val (.long q1), .second, .val (.long q2), .second, .val (.long q3), .second, .val (.int p4), .val (.ref b101), .val (.ref b173), .val (.int v18), .unset] [(.int (0 : Int32))])) t → Steps p.tables e below (T212.setTop (mkF m 98 #[.val (.long q0), .second, .val (.long q1), .second, .val (.long q2), .second, .val (.long q3), .second, .val (.int p4), .val (.ref b101), .val (.ref b173), .val (.int v18), .unset] [(.int (lcmpW q1 q1))])) t := by
              intro t kt
              show Steps p.tables e below (T212.setTop (mkF m 98 #[.val (.long q0), .second, .val (.long q1), .second, .val (.long q2), .second, .val (.long q3), .second, .val (.int p4), .val (.ref b101), .val (.ref b173), .val (.int v18), .unset] [(.int (lcmpW q1 q1))])) _
              refine XS.ifYes X212.here hx rfl (pc0 := 98) (pc' := 116) rfl (hb hby at_98) rfl ((if0 _ _).trans (feq (own_lc_neq hc98_20)).2) (by decide) (by decide) ?_
              show Steps p.tables e below (T212.setTop (mkF m 116 #[.val (.long q0), .second, .val (.long q1), .second, .val (.long q2), .second, .val (.long q3), .second, .val (.int p4), .val (.ref b101), .val (.ref b173), .val (.int v18), .unset] [])) _
              refine XS.iconst X212.here hx rfl (hb hby at_116) ?_
              exact kt
            refine own_arm hgo218 ?_
            exact own_armEnd X212 N212 e212 (by rw [hv17.trans (if_neg hc98_20)]))
        have hgo220 : ∀ t, Steps p.tables e below (T219.setTop (mkF m 117 #[.val (.long q0), .second, .val (.long q1), .second, .val (.long q2), .second, .val (.long q3), .second, .val (.int p4), .val (.ref b101), .val (.ref b173), .val (.int v18), .unset] [(.int v17)])) t → Steps p.tables e below (T211.setTop (mkF m 88 #[.val (.long q0), .second, .val (.long q1), .second, .val (.long q2), .second, .val (.long q3), .second, .val (.int p4), .val (.ref b101), .val (.ref b173), .val (.int v18), .unset] [(.int (lcmpW q0 q0))])) t := by
          intro t kt
          show Steps p.tables e below (T211.setTop (mkF m 88 #[.val (.long q0), .second, .val (.long q1), .second, .val (.long q2), .second, .val (.long q3), .second, .val (.int p4), .val (.ref b101), .val (.ref b173), .val (.int v18), .unset] [(.int (lcmpW q0 q0))])) _
          refine XS.ifNo X211.here hx rfl (hb hby at_88) rfl ((if0 _ _).trans (teq (own_lc_eq hc88_19)).2) ?_
          show Steps p.tables e below (T211.setTop (mkF m 91 #[.val (.long q0), .second, .val (.long q1), .second, .val (.long q2), .second, .val (.long q3), .second, .val (.int p4), .val (.ref b101), .val (.ref b173), .val (.int v18), .unset] [])) _
          refine XS.aload X211.here hx rfl (hb hby at_91) rfl rfl ?_
          show Steps p.tables e below (T211.setTop (mkF m 93 #[.val (.long q0), .second, .val (.long q1), .second, .val (.long q2), .second, .val (.long q3), .second, .val (.int p4), .val (.ref b101), .val (.ref b173), .val (.int v18), .unset] [(.ref b173)])) _
          refine st212.trans ?_
          show Steps p.tables e below (T212.setTop (mkF m 96 #[.val (.long q0), .second, .val (.long q1), .second, .val (.long q2), .second, .val (.long q3), .second, .val (.int p4), .val (.ref b101), .val (.ref b173), .val (.int v18), .unset] [(.long q1)])) _
          refine XS.lloadN X212.here hx rfl (hb hby at_96) rfl ?_
          show Steps p.tables e below (T212.setTop (mkF m 97 #[.val (.long q0), .second, .val (.long q1), .second, .val (.long q2), .second, .val (.long q3), .second, .val (.int p4), .val (.ref b101), .val (.ref b173), .val (.int v18), .unset] [(.long q1), (.long q1)])) _
          refine XS.lcmp X212.here hx rfl (hb hby at_97) rfl ?_
          show Steps p.tables e below (T212.setTop (mkF m 98 #[.val (.long q0), .second, .val (.long q1), .second, .val (.long q2), .second, .val (.long q3), .second, .val (.int p4), .val (.ref b101), .val (.ref b173), .val (.int v18), .unset] [(.int (lcmpW q1 q1))])) _
          refine st219 _ ?_
          exact kt
        refine own_arm hgo220 ?_
        exact own_armEnd X219 N219 e219 (by rw [hv18.trans (if_pos hc88_19)])
      · have hgo221 : ∀ t, Steps p.tables e below (T211.setTop (mkF m 117 #[.val (.long q0), .second, .val (.long q1), .second, .val (.long q2), .second, .val (.long q3), .second, .val (.int p4), .val (.ref b101), .val (.ref b173), .val (.int v18), .unset] [(.int (0 : Int32))])) t → Steps p.tables e below (T211.setTop (mkF m 88 #[.val (.long q0), .second, .val (.long q1), .second, .val (.long q2), .second, .val (.long q3), .second, .val (.int p4), .val (.ref b101), .val (.ref b173), .val (.int v18), .unset] [(.int (lcmpW q0 q0))])) t := by
          intro t kt
          show Steps p.tables e below (T211.setTop (mkF m 88 #[.val (.long q0), .second, .val (.long q1), .second, .val (.long q2), .second, .val (.long q3), .second, .val (.int p4), .val (.ref b101), .val (.ref b173), .val (.int v18), .unset] [(.int (lcmpW q0 q0))])) _
          refine XS.ifYes X211.here hx rfl (pc0 := 88) (pc' := 116) rfl (hb hby at_88) rfl ((if0 _ _).trans (feq (own_lc_neq hc88_19)).2) (by decide) (by decide) ?_
          show Steps p.tables e below (T211.setTop (mkF m 116 #[.val (.long q0), .second, .val (.long q1), .second, .val (.long q2), .second, .val (.long q3), .second, .val (.int p4), .val (.ref b101), .val (.ref b173), .val (.int v18), .unset] [])) _
          refine XS.iconst X211.here hx rfl (hb hby at_116) ?_
          exact kt
        refine own_arm hgo221 ?_
        exact own_armEnd X211 N211 e211 (by rw [hv18.trans (if_neg hc88_19)]))
    obtain ⟨v23, hv23⟩ : ∃ z : Int32, z = (if v18 = (0 : Int32) then (0 : Int32) else (1 : Int32)) := ⟨_, rfl⟩
    obtain ⟨T225, lc225, X225, N225, e225, st225⟩ := own_mrg (n0 := n0) (h := T191.heap) (g := (mkF m 121 #[.val (.long q0), .second, .val (.long q1), .second, .val (.long q2), .second, .val (.long q3), .second, .val (.int p4), .val (.ref b101), .val (.ref b173), .val (.int v18), .val (.int v18)] [(.int v18)])) (g' := (mkF m 134 #[.val (.long q0), .second, .val (.long q1), .second, .val (.long q2), .second, .val (.long q3), .second, .val (.int p4), .val (.ref b101), .val (.ref b173), .val (.int v18), .val (.int v18)] [(.int v23)])) X222 (by
      by_cases hc121_22 : v18 = (0 : Int32)
      · have hgo223 : ∀ t, Steps p.tables e below (T222.setTop (mkF m 134 #[.val (.long q0), .second, .val (.long q1), .second, .val (.long q2), .second, .val (.long q3), .second, .val (.int p4), .val (.ref b101), .val (.ref b173), .val (.int v18), .val (.int v18)] [(.int (0 : Int32))])) t → Steps p.tables e below (T222.setTop (mkF m 121 #[.val (.long q0), .second, .val (.long q1), .second, .val (.long q2), .second, .val (.long q3), .second, .val (.int p4), .val (.ref b101), .val (.ref b173), .val (.int v18), .val (.int v18)] [(.int v18)])) t := by
          intro t kt
          show Steps p.tables e below (T222.setTop (mkF m 121 #[.val (.long q0), .second, .val (.long q1), .second, .val (.long q2), .second, .val (.long q3), .second, .val (.int p4), .val (.ref b101), .val (.ref b173), .val (.int v18), .val (.int v18)] [(.int v18)])) _
          refine XS.ifYes X222.here hx rfl (pc0 := 121) (pc' := 133) rfl (hb hby at_121) rfl ((if0 _ _).trans (teq hc121_22).1) (by decide) (by decide) ?_
          show Steps p.tables e below (T222.setTop (mkF m 133 #[.val (.long q0), .second, .val (.long q1), .second, .val (.long q2), .second, .val (.long q3), .second, .val (.int p4), .val (.ref b101), .val (.ref b173), .val (.int v18), .val (.int v18)] [])) _
          refine XS.iconst X222.here hx rfl (hb hby at_133) ?_
          exact kt
        refine own_arm hgo223 ?_
        exact own_armEnd X222 N222 e222 (by rw [hv23.trans (if_pos hc121_22)])
      · have hgo224 : ∀ t, Steps p.tables e below (T222.setTop (mkF m 134 #[.val (.long q0), .second, .val (.long q1), .second, .val (.long q2), .second, .val (.long q3), .second, .val (.int p4), .val (.ref b101), .val (.ref b173), .val (.int v18), .val (.int v18)] [(.int (1 : Int32))])) t → Steps p.tables e below (T222.setTop (mkF m 121 #[.val (.long q0), .second, .val (.long q1), .second, .val (.long q2), .second, .val (.long q3), .second, .val (.int p4), .val (.ref b101), .val (.ref b173), .val (.int v18), .val (.int v18)] [(.int v18)])) t := by
          intro t kt
          show Steps p.tables e below (T222.setTop (mkF m 121 #[.val (.long q0), .second, .val (.long q1), .second, .val (.long q2), .second, .val (.long q3), .second, .val (.int p4), .val (.ref b101), .val (.ref b173), .val (.int v18), .val (.int v18)] [(.int v18)])) _
          refine XS.ifNo X222.here hx rfl (hb hby at_121) rfl ((if0 _ _).trans (feq hc121_22).1) ?_
          show Steps p.tables e below (T222.setTop (mkF m 124 #[.val (.long q0), .second, .val (.long q1), .second, .val (.long q2), .second, .val (.long q3), .second, .val (.int p4), .val (.ref b101), .val (.ref b173), .val (.int v18), .val (.int v18)] [])) _
          refine XS.iload X222.here hx rfl (hb hby at_124) rfl ?_
          show Steps p.tables e below (T222.setTop (mkF m 126 #[.val (.long q0), .second, .val (.long q1), .second, .val (.long q2), .second, .val (.long q3), .second, .val (.int p4), .val (.ref b101), .val (.ref b173), .val (.int v18), .val (.int v18)] [(.int v18)])) _
          refine XS.ifNo X222.here hx rfl (hb hby at_126) rfl ((if0 _ _).trans (feq hc121_22).1) ?_
          show Steps p.tables e below (T222.setTop (mkF m 129 #[.val (.long q0), .second, .val (.long q1), .second, .val (.long q2), .second, .val (.long q3), .second, .val (.int p4), .val (.ref b101), .val (.ref b173), .val (.int v18), .val (.int v18)] [])) _
          refine XS.iconst X222.here hx rfl (hb hby at_129) ?_
          show Steps p.tables e below (T222.setTop (mkF m 130 #[.val (.long q0), .second, .val (.long q1), .second, .val (.long q2), .second, .val (.long q3), .second, .val (.int p4), .val (.ref b101), .val (.ref b173), .val (.int v18), .val (.int v18)] [(.int (1 : Int32))])) _
          refine XS.goto X222.here hx rfl (pc0 := 130) (pc' := 134) rfl (hb hby at_130) (by decide) (by decide) ?_
          exact kt
        refine own_arm hgo224 ?_
        exact own_armEnd X222 N222 e222 (by rw [hv23.trans (if_neg hc121_22)]))
    have hgo226 : ∀ t, Steps p.tables e below (T225.setTop (mkF m 134 #[.val (.long q0), .second, .val (.long q1), .second, .val (.long q2), .second, .val (.long q3), .second, .val (.int p4), .val (.ref b101), .val (.ref b173), .val (.int v18), .val (.int v18)] [(.int v23)])) t → Steps p.tables e below (T107.setTop (mkF m 13 #[.val (.long q0), .second, .val (.long q1), .second, .val (.long q2), .second, .val (.long q3), .second, .val (.int p4), .val (.ref b101), .unset, .unset, .unset] [(.int (p4 &&& (1 : Int32)))])) t := by
      intro t kt
      show Steps p.tables e below (T107.setTop (mkF m 13 #[.val (.long q0), .second, .val (.long q1), .second, .val (.long q2), .second, .val (.long q3), .second, .val (.int p4), .val (.ref b101), .unset, .unset, .unset] [(.int (p4 &&& (1 : Int32)))])) _
      refine XS.ifNo X107.here hx rfl (hb hby at_13) rfl ((if0 _ _).trans (feq hc13_1).1) ?_
      show Steps p.tables e below (T107.setTop (mkF m 16 #[.val (.long q0), .second, .val (.long q1), .second, .val (.long q2), .second, .val (.long q3), .second, .val (.int p4), .val (.ref b101), .unset, .unset, .unset] [])) _
      refine XS.aload X107.here hx rfl (hb hby at_16) rfl rfl ?_
      show Steps p.tables e below (T107.setTop (mkF m 18 #[.val (.long q0), .second, .val (.long q1), .second, .val (.long q2), .second, .val (.long q3), .second, .val (.int p4), .val (.ref b101), .unset, .unset, .unset] [(.ref b101)])) _
      refine XS.lload X107.here hx rfl (hb hby at_18) rfl ?_
      show Steps p.tables e below (T107.setTop (mkF m 20 #[.val (.long q0), .second, .val (.long q1), .second, .val (.long q2), .second, .val (.long q3), .second, .val (.int p4), .val (.ref b101), .unset, .unset, .unset] [(.long q3), (.ref b101)])) _
      refine st169.trans ?_
      show Steps p.tables e below (T169.setTop (mkF m 23 #[.val (.long q0), .second, .val (.long q1), .second, .val (.long q2), .second, .val (.long q3), .second, .val (.int p4), .val (.ref b101), .unset, .unset, .unset] [])) _
      refine st173 _ ?_
      show Steps p.tables e below (T173.setTop (mkF m 26 #[.val (.long q0), .second, .val (.long q1), .second, .val (.long q2), .second, .val (.long q3), .second, .val (.int p4), .val (.ref b101), .unset, .unset, .unset] [(.ref b173)])) _
      refine XS.dup X173.here hx rfl (hb hby at_26) rfl rfl ?_
      show Steps p.tables e below (T173.setTop (mkF m 27 #[.val (.long q0), .second, .val (.long q1), .second, .val (.long q2), .second, .val (.long q3), .second, .val (.int p4), .val (.ref b101), .unset, .unset, .unset] [(.ref b173), (.ref b173)])) _
      refine XS.lloadN X173.here hx rfl (hb hby at_27) rfl ?_
      show Steps p.tables e below (T173.setTop (mkF m 28 #[.val (.long q0), .second, .val (.long q1), .second, .val (.long q2), .second, .val (.long q3), .second, .val (.int p4), .val (.ref b101), .unset, .unset, .unset] [(.long q0), (.ref b173), (.ref b173)])) _
      refine XS.lloadN X173.here hx rfl (hb hby at_28) rfl ?_
      show Steps p.tables e below (T173.setTop (mkF m 29 #[.val (.long q0), .second, .val (.long q1), .second, .val (.long q2), .second, .val (.long q3), .second, .val (.int p4), .val (.ref b101), .unset, .unset, .unset] [(.long q1), (.long q0), (.ref b173), (.ref b173)])) _
      refine XS.lload X173.here hx rfl (hb hby at_29) rfl ?_
      show Steps p.tables e below (T173.setTop (mkF m 31 #[.val (.long q0), .second, .val (.long q1), .second, .val (.long q2), .second, .val (.long q3), .second, .val (.int p4), .val (.ref b101), .unset, .unset, .unset] [(.long q2), (.long q1), (.long q0), (.ref b173), (.ref b173)])) _
      refine st183.trans ?_
      show Steps p.tables e below (T183.setTop (mkF m 34 #[.val (.long q0), .second, .val (.long q1), .second, .val (.long q2), .second, .val (.long q3), .second, .val (.int p4), .val (.ref b101), .unset, .unset, .unset] [(.ref b173)])) _
      refine XS.astore X183.here hx rfl (hb hby at_34) rfl rfl (l' := #[.val (.long q0), .second, .val (.long q1), .second, .val (.long q2), .second, .val (.long q3), .second, .val (.int p4), .val (.ref b101), .val (.ref b173), .unset, .unset]) rfl ?_
      show Steps p.tables e below (T183.setTop (mkF m 36 #[.val (.long q0), .second, .val (.long q1), .second, .val (.long q2), .second, .val (.long q3), .second, .val (.int p4), .val (.ref b101), .val (.ref b173), .unset, .unset] [])) _
      refine XS.aload X183.here hx rfl (hb hby at_36) rfl rfl ?_
      show Steps p.tables e below (T183.setTop (mkF m 38 #[.val (.long q0), .second, .val (.long q1), .second, .val (.long q2), .second, .val (.long q3), .second, .val (.int p4), .val (.ref b101), .val (.ref b173), .unset, .unset] [(.ref b101)])) _
      refine XS.aload X183.here hx rfl (hb hby at_38) rfl rfl ?_
      show Steps p.tables e below (T183.setTop (mkF m 40 #[.val (.long q0), .second, .val (.long q1), .second, .val (.long q2), .second, .val (.long q3), .second, .val (.int p4), .val (.ref b101), .val (.ref b173), .unset, .unset] [(.ref b173), (.ref b101)])) _
      refine st191.trans ?_
      show Steps p.tables e below (T191.setTop (mkF m 43 #[.val (.long q0), .second, .val (.long q1), .second, .val (.long q2), .second, .val (.long q3), .second, .val (.int p4), .val (.ref b101), .val (.ref b173), .unset, .unset] [])) _
      refine XS.aload X191.here hx rfl (hb hby at_43) rfl rfl ?_
      show Steps p.tables e below (T191.setTop (mkF m 45 #[.val (.long q0), .second, .val (.long q1), .second, .val (.long q2), .second, .val (.long q3), .second, .val (.int p4), .val (.ref b101), .val (.ref b173), .unset, .unset] [(.ref b101)])) _
      refine st199.trans ?_
      show Steps p.tables e below (T199.setTop (mkF m 48 #[.val (.long q0), .second, .val (.long q1), .second, .val (.long q2), .second, .val (.long q3), .second, .val (.int p4), .val (.ref b101), .val (.ref b173), .unset, .unset] [(.long q0)])) _
      refine XS.lloadN X199.here hx rfl (hb hby at_48) rfl ?_
      show Steps p.tables e below (T199.setTop (mkF m 49 #[.val (.long q0), .second, .val (.long q1), .second, .val (.long q2), .second, .val (.long q3), .second, .val (.int p4), .val (.ref b101), .val (.ref b173), .unset, .unset] [(.long q0), (.long q0)])) _
      refine XS.lcmp X199.here hx rfl (hb hby at_49) rfl ?_
      show Steps p.tables e below (T199.setTop (mkF m 50 #[.val (.long q0), .second, .val (.long q1), .second, .val (.long q2), .second, .val (.long q3), .second, .val (.int p4), .val (.ref b101), .val (.ref b173), .unset, .unset] [(.int (lcmpW q0 q0))])) _
      refine st210 _ ?_
      show Steps p.tables e below (T210.setTop (mkF m 79 #[.val (.long q0), .second, .val (.long q1), .second, .val (.long q2), .second, .val (.long q3), .second, .val (.int p4), .val (.ref b101), .val (.ref b173), .unset, .unset] [(.int v18)])) _
      refine XS.istore X210.here hx rfl (hb hby at_79) rfl (l' := #[.val (.long q0), .second, .val (.long q1), .second, .val (.long q2), .second, .val (.long q3), .second, .val (.int p4), .val (.ref b101), .val (.ref b173), .val (.int v18), .unset]) rfl ?_
      show Steps p.tables e below (T210.setTop (mkF m 81 #[.val (.long q0), .second, .val (.long q1), .second, .val (.long q2), .second, .val (.long q3), .second, .val (.int p4), .val (.ref b101), .val (.ref b173), .val (.int v18), .unset] [])) _
      refine XS.aload X210.here hx rfl (hb hby at_81) rfl rfl ?_
      show Steps p.tables e below (T210.setTop (mkF m 83 #[.val (.long q0), .second, .val (.long q1), .second, .val (.long q2), .second, .val (.long q3), .second, .val (.int p4), .val (.ref b101), .val (.ref b173), .val (.int v18), .unset] [(.ref b173)])) _
      refine st211.trans ?_
      show Steps p.tables e below (T211.setTop (mkF m 86 #[.val (.long q0), .second, .val (.long q1), .second, .val (.long q2), .second, .val (.long q3), .second, .val (.int p4), .val (.ref b101), .val (.ref b173), .val (.int v18), .unset] [(.long q0)])) _
      refine XS.lloadN X211.here hx rfl (hb hby at_86) rfl ?_
      show Steps p.tables e below (T211.setTop (mkF m 87 #[.val (.long q0), .second, .val (.long q1), .second, .val (.long q2), .second, .val (.long q3), .second, .val (.int p4), .val (.ref b101), .val (.ref b173), .val (.int v18), .unset] [(.long q0), (.long q0)])) _
      refine XS.lcmp X211.here hx rfl (hb hby at_87) rfl ?_
      show Steps p.tables e below (T211.setTop (mkF m 88 #[.val (.long q0), .second, .val (.long q1), .second, .val (.long q2), .second, .val (.long q3), .second, .val (.int p4), .val (.ref b101), .val (.ref b173), .val (.int v18), .unset] [(.int (lcmpW q0 q0))])) _
      refine st222 _ ?_
      show Steps p.tables e below (T222.setTop (mkF m 117 #[.val (.long q0), .second, .val (.long q1), .second, .val (.long q2), .second, .val (.long q3), .second, .val (.int p4), .val (.ref b101), .val (.ref b173), .val (.int v18), .unset] [(.int v18)])) _
      refine XS.istore X222.here hx rfl (hb hby at_117) rfl (l' := #[.val (.long q0), .second, .val (.long q1), .second, .val (.long q2), .second, .val (.long q3), .second, .val (.int p4), .val (.ref b101), .val (.ref b173), .val (.int v18), .val (.int v18)]) rfl ?_
      show Steps p.tables e below (T222.setTop (mkF m 119 #[.val (.long q0), .second, .val (.long q1), .second, .val (.long q2), .second, .val (.long q3), .second, .val (.int p4), .val (.ref b101), .val (.ref b173), .val (.int v18), .val (.int v18)] [])) _
      refine XS.iload X222.here hx rfl (hb hby at_119) rfl ?_
      show Steps p.tables e below (T222.setTop (mkF m 121 #[.val (.long q0), .second, .val (.long q1), .second, .val (.long q2), .second, .val (.long q3), .second, .val (.int p4), .val (.ref b101), .val (.ref b173), .val (.int v18), .val (.int v18)] [(.int v18)])) _
      refine st225 _ ?_
      exact kt
    refine own_go hgo226 ?_
    have hz227 : v23 = 1 := own_leaf1 (q0 := q0) (q1 := q1) (q2 := q2) (q3 := q3) (p4 := p4) hv16 hv17 hv18 hv23 hc13_1
    exact own_retZ X225 hx Bd.returns Bd.notSynchronized (hb hby at_134) (by decide) (by decide) (Or.inr hz227) ⟨by rw [hz227], N225⟩
set_option maxRecDepth 65536 in
set_option maxHeartbeats 40000000 in
theorem comes_1 {Post : Tables → Env → Array Value → State → Outcome → State → Prop} (hpost : ∀ tb e args s v u, (limb_1_1.after args s (.returned v) u = true ∧ limb_1_2.after args s (.returned v) u = true ∧ True) → FrameEnd s (.returned v) u (Jvm.fieldLocs frame_1_writes args s ++ Jvm.arrayLocs frame_1_arrays args s ++ Jvm.staticLocs frame_1_statics s) 16 128 → Post tb e args s (.returned v) u) :
    ArmFor flags0 classFile x code maxLocals ret World_1 tables_1 room_1 Calls_1 rest_1 Pre_1 Post := by
  intro l hfl _ _ p e ha hc hk s m args below hf hA hF happ hP
  obtain ⟨hcalls, hrest, hpre⟩ := hP
  obtain ⟨-, -, -, hnamed, -, -, -, hat⟩ := (Spec.applies_iff hf).mp happ
  obtain ⟨hg, hn⟩ := and_e (Cond.before_iff.mp (show (Jvm.Cond.and given_1 narrow_1).before args s = true from hpre))
  obtain ⟨gg1, gg2⟩ := and_e hg
  obtain ⟨gg3, gg4⟩ := and_e gg2
  obtain ⟨gg5, gg6⟩ := and_e gg4
  obtain ⟨gg7, gg8⟩ := and_e gg6
  obtain ⟨gg9, gg10⟩ := and_e gg8
  obtain ⟨w0, w1, w2, w3, w4, rfl⟩ : ∃ w0 w1 w2 w3 w4 : Value, args = #[w0, w1, w2, w3, w4] := by
    have hs : args.size = 5 := by simpa [Cond.value, given_1] using gg1
    obtain ⟨L⟩ := args
    match L, hs with
    | [w0, w1, w2, w3, w4], _ => exact ⟨w0, w1, w2, w3, w4, rfl⟩
  have hw := fun d (hd : d ∈ tables_1) => atoms_spec (ws := Jvm.Cond.code x code maxLocals ret :: tables_1) hat d (List.mem_cons_of_mem _ hd)
  have hfit : Fit s := fun {y c} hc i hi => by
    obtain ⟨ha, rfl⟩ := Array.getElem?_eq_some_iff.mp hc
    have q := List.all_eq_true.mp ((Array.all_eq_true_iff_forall_mem.mp hF) _ (Array.getElem_mem ha)) i (List.mem_range.mpr hi)
    simpa [Array.getElem?_eq_getElem hi] using q
  obtain ⟨i0, ei0⟩ := isL_v gg3
  obtain rfl : w0 = (.long i0) := Option.some.inj ei0
  obtain ⟨i1, ei1⟩ := isL_v gg5
  obtain rfl : w1 = (.long i1) := Option.some.inj ei1
  obtain ⟨i2, ei2⟩ := isL_v gg7
  obtain rfl : w2 = (.long i2) := Option.some.inj ei2
  obtain ⟨i3, ei3⟩ := isL_v gg9
  obtain rfl : w3 = (.long i3) := Option.some.inj ei3
  obtain ⟨i4, ei4⟩ := is_v gg10
  obtain rfl : w4 = (.int i4) := Option.some.inj ei4
  obtain ⟨n, o, h1, h2, h3, _, L, rfl, ⟨rfl, N⟩, hq⟩ := rm0 l s _ hw tables_1 i0 i1 i2 i3 i4 s.heap s.heap.size (Nat.le_refl _)  p e ha hc hk s m _ below hf ((Spec.applies_iff_loose hf).mp happ).1 ⟨rfl, State.Warmed39.refl s, rfl⟩ trivial
  refine ⟨n, _, h1, h2, h3, hpost _ _ _ _ _ _ ⟨Cond.after_iff.mpr rfl, Cond.after_iff.mpr (eq_i res_at (Term.int_eval (1)) rfl), trivial⟩ ⟨hq.1, hq.2.1, (hq.2.2.sift fun y hy => Or.inr (N y hy)).mono (by decide) (by decide)⟩⟩
theorem main_1_1 : Claimed_1_1 := comes_1 fun _ _ _ _ _ _ h hF => ⟨h.1, hF⟩
theorem main_1_2 : Claimed_1_2 := comes_1 fun _ _ _ _ _ _ h hF => ⟨h.2.1, hF⟩
end Jvm.Pilot.@@N@@
namespace Jvm.Pilot.@@N@@
open Jvm Jvm.ClassFile Sem Op Lib Jvm.Free Jvm.Stand Jvm.Pilot.@@N@@.Jvm.D
/-! MADE BY PROGRAM (witnessworld.py) out of the Statement's table words and the real class files: 10 classes; the members and pool entries that the words name. The judged class is class 1, her method 1. -/
namespace start1
open Jvm.ClassFile
def u (s : String) : CpInfo := .utf8 (stringToUtf16 s)
/-- a pool by its gaps: so many unusable entries, then the entry; so many at the end -/
def gap : Nat → List CpInfo → List CpInfo
  | 0, r => r
  | n + 1, r => .unusable :: gap n r
def poolList (es : List (Nat × CpInfo)) (last : Nat) : List CpInfo := es.foldr (fun e r => gap e.1 (e.2 :: r)) (gap last [])
def pool (es : List (Nat × CpInfo)) (last : Nat) : Array CpInfo := ⟨poolList es last⟩
def fileOf (pool : Array CpInfo) (this : Nat) (attrs : Array Attribute := #[]) (ms : Array MethodInfo := #[]) (fl : Nat := 33) (sup : Nat := 0) (ifs : Array Nat := #[]) (fds : Array FieldInfo := #[]) : ClassFile where
  minorVersion := 0
  majorVersion := 65
  constantPool := pool
  accessFlags := fl
  thisClass := this
  superClass := sup
  interfaces := ifs
  fields := fds
  methods := ms
  attributes := attrs
def plain (name : String) (sup : Option ClassId) : Class where
  name := name
  kind := .ordinary
  loader := none
  accessFlags := 33
  super := sup
  interfaces := #[]
  cf := none
  fields := #[]
  methods := #[]
  instanceTypes := #[]
  staticTypes := #[]
  resolved := #[]
  callSites := []
  init := .initialized
  statics := none
  mirror := none

def pool0 : Array CpInfo := pool [(5, u "<init>"), (0, u "()V"), (1, .class_ 10), (1, u "java/lang/Object")] 113

def k0c0 : Code := { maxStack := 0, maxLocals := 1, code := object_method_1_code, exceptionTable := #[], attributes := #[] }
def k0m0 : Method := { name := "<init>", desc := "()V", sig := { parameters := [], returnType := none }, accessFlags := 1, code := some k0c0 }
/-- java/lang/Object -/
def k0 : Class := { plain "java/lang/Object" none with
  accessFlags := 33
  interfaces := #[]
  cf := some (fileOf pool0 8 #[] #[{ accessFlags := 1, nameIndex := 5, descriptorIndex := 6, attributes := #[] }] 33 0 #[] #[])
  fields := #[]
  methods := #[k0m0]
  instanceTypes := #[]
  staticTypes := #[]
  resolved := Array.replicate 124 none
  statics := none }

def pool1 : Array CpInfo := pool [(2, .class_ 4), (0, .nameAndType 5 6), (0, u "java/lang/Object"), (0, u "<init>"), (0, u "()V"), (0, .class_ 8), (0, u "com/example/millrace/millrace/queue/JournalClock"), (0, .methodref 7 3), (0, .methodref 7 11), (0, .nameAndType 12 13), (0, u "written"), (0, u "(J)V"), (0, .methodref 7 15), (0, .nameAndType 5 16), (0, u "(JJJ)V"), (0, .methodref 7 18), (0, .nameAndType 19 20), (0, u "setTo"), (0, u "(Lcom/example/millrace/millrace/queue/JournalClock;)V"), (0, .methodref 7 22), (0, .nameAndType 23 24), (0, u "latestMillis"), (0, u "()J"), (0, .methodref 7 26), (0, .nameAndType 27 24), (0, u "millis"), (0, .methodref 7 29), (0, .nameAndType 30 24), (0, u "leadMillis"), (0, .class_ 32), (0, u "com/example/millrace/millrace/queue/JournalClockSetToPinLaw"), (2, u "law"), (0, u "(JJJJI)Z")] 3

def k1m0 : Method := { name := "<init>", desc := "()V", sig := { parameters := [], returnType := none }, accessFlags := 1, code := none }
def k1c1 : Code := { maxStack := 8, maxLocals := 13, code := code, exceptionTable := #[], attributes := #[] }
def k1m1 : Method := { name := "law", desc := "(JJJJI)Z", sig := { parameters := [.long, .long, .long, .long, .int], returnType := some .boolean }, accessFlags := 9, code := some k1c1 }
/-- com/example/millrace/millrace/queue/JournalClockSetToPinLaw -/
def k1 : Class := { plain "com/example/millrace/millrace/queue/JournalClockSetToPinLaw" (some 0) with
  accessFlags := 49
  interfaces := #[]
  cf := some (fileOf pool1 31 #[] #[{ accessFlags := 1, nameIndex := 5, descriptorIndex := 6, attributes := #[] }, { accessFlags := 9, nameIndex := 35, descriptorIndex := 36, attributes := #[] }] 49 2 #[] #[])
  fields := #[]
  methods := #[k1m0, k1m1]
  instanceTypes := #[]
  staticTypes := #[]
  resolved := Array.replicate 40 none
  statics := none }

def pool2 : Array CpInfo := pool [(1, .methodref 2 3), (0, .class_ 4), (0, .nameAndType 5 6), (0, u "java/lang/Object"), (0, u "<init>"), (0, u "()V"), (2, .long 9223372036854775808), (1, .fieldref 12 13), (0, .class_ 14), (0, .nameAndType 15 16), (0, u "com/example/millrace/millrace/queue/JournalClock"), (0, u "latestMillis"), (0, u "J"), (0, .fieldref 12 18), (0, .nameAndType 19 16), (0, u "millis"), (0, .fieldref 12 21), (0, .nameAndType 22 16), (0, u "leadMillis"), (2, u "(JJJ)V"), (0, .methodref 27 28), (0, .class_ 29), (0, .nameAndType 30 31), (0, u "java/lang/Math"), (0, u "max"), (0, u "(JJ)J"), (14, u "setTo"), (0, u "(Lcom/example/millrace/millrace/queue/JournalClock;)V"), (0, u "written"), (0, u "(J)V"), (1, u "()J")] 8

def k2c0 : Code := { maxStack := 3, maxLocals := 1, code := prog_19_method_1_code, exceptionTable := #[], attributes := #[] }
def k2m0 : Method := { name := "<init>", desc := "()V", sig := { parameters := [], returnType := none }, accessFlags := 0, code := some k2c0 }
def k2c1 : Code := { maxStack := 3, maxLocals := 7, code := prog_19_method_2_code, exceptionTable := #[], attributes := #[] }
def k2m1 : Method := { name := "<init>", desc := "(JJJ)V", sig := { parameters := [.long, .long, .long], returnType := none }, accessFlags := 0, code := some k2c1 }
def k2c2 : Code := { maxStack := 3, maxLocals := 2, code := prog_19_method_4_code, exceptionTable := #[], attributes := #[] }
def k2m2 : Method := { name := "setTo", desc := "(Lcom/example/millrace/millrace/queue/JournalClock;)V", sig := { parameters := [(.object "com/example/millrace/millrace/queue/JournalClock")], returnType := none }, accessFlags := 0, code := some k2c2 }
def k2c3 : Code := { maxStack := 5, maxLocals := 5, code := prog_19_method_5_code, exceptionTable := #[], attributes := #[] }
def k2m3 : Method := { name := "written", desc := "(J)V", sig := { parameters := [.long], returnType := none }, accessFlags := 0, code := some k2c3 }
def k2c4 : Code := { maxStack := 2, maxLocals := 1, code := prog_19_method_6_code, exceptionTable := #[], attributes := #[] }
def k2m4 : Method := { name := "latestMillis", desc := "()J", sig := { parameters := [], returnType := some .long }, accessFlags := 0, code := some k2c4 }
def k2c5 : Code := { maxStack := 2, maxLocals := 1, code := prog_19_method_7_code, exceptionTable := #[], attributes := #[] }
def k2m5 : Method := { name := "millis", desc := "()J", sig := { parameters := [], returnType := some .long }, accessFlags := 0, code := some k2c5 }
def k2c6 : Code := { maxStack := 2, maxLocals := 1, code := prog_19_method_8_code, exceptionTable := #[], attributes := #[] }
def k2m6 : Method := { name := "leadMillis", desc := "()J", sig := { parameters := [], returnType := some .long }, accessFlags := 0, code := some k2c6 }
/-- com/example/millrace/millrace/queue/JournalClock -/
def k2 : Class := { plain "com/example/millrace/millrace/queue/JournalClock" (some 0) with
  accessFlags := 48
  interfaces := #[]
  cf := some (fileOf pool2 12 #[] #[{ accessFlags := 0, nameIndex := 5, descriptorIndex := 6, attributes := #[] }, { accessFlags := 0, nameIndex := 5, descriptorIndex := 25, attributes := #[] }, { accessFlags := 0, nameIndex := 46, descriptorIndex := 47, attributes := #[] }, { accessFlags := 0, nameIndex := 48, descriptorIndex := 49, attributes := #[] }, { accessFlags := 0, nameIndex := 15, descriptorIndex := 51, attributes := #[] }, { accessFlags := 0, nameIndex := 19, descriptorIndex := 51, attributes := #[] }, { accessFlags := 0, nameIndex := 22, descriptorIndex := 51, attributes := #[] }] 48 2 #[] #[{ accessFlags := 2, nameIndex := 15, descriptorIndex := 16, attributes := #[] }, { accessFlags := 2, nameIndex := 19, descriptorIndex := 16, attributes := #[] }, { accessFlags := 2, nameIndex := 22, descriptorIndex := 16, attributes := #[] }])
  fields := #[{ name := "latestMillis", type := .long, accessFlags := 2, slot := 0, constantValue := 0 }, { name := "millis", type := .long, accessFlags := 2, slot := 1, constantValue := 0 }, { name := "leadMillis", type := .long, accessFlags := 2, slot := 2, constantValue := 0 }]
  methods := #[k2m0, k2m1, k2m2, k2m3, k2m4, k2m5, k2m6]
  instanceTypes := #[.long, .long, .long]
  staticTypes := #[]
  resolved := Array.replicate 60 none
  statics := none }

def pool3 : Array CpInfo := pool [(1, .class_ 2), (0, u "java/lang/Math"), (1, .class_ 6), (1, u "java/lang/Object"), (0, u "<init>"), (0, u "()V"), (89, .class_ 100), (1, u "java/lang/Math$RandomNumberGeneratorHolder"), (20, u "(JJ)J"), (50, u "negativeZeroFloatBits"), (0, u "J"), (2, u "negativeZeroDoubleBits"), (21, u "max"), (46, u "$assertionsDisabled"), (0, u "Z"), (91, u "twoToTheDoubleScaleDown"), (0, u "D"), (4, u "twoToTheDoubleScaleUp"), (9, u "E"), (3, u "PI"), (2, u "TAU"), (2, u "DEGREES_TO_RADIANS"), (0, u "RADIANS_TO_DEGREES")] 94

def k3m0 : Method := { name := "<init>", desc := "()V", sig := { parameters := [], returnType := none }, accessFlags := 2, code := none }
def k3c1 : Code := { maxStack := 4, maxLocals := 4, code := jdk_29_method_66_code, exceptionTable := #[], attributes := #[] }
def k3m1 : Method := { name := "max", desc := "(JJ)J", sig := { parameters := [.long, .long], returnType := some .long }, accessFlags := 9, code := some k3c1 }
/-- java/lang/Math -/
def k3 : Class := { plain "java/lang/Math" (some 0) with
  accessFlags := 49
  interfaces := #[]
  cf := some (fileOf pool3 1 #[.nestMembers #[98]] #[{ accessFlags := 2, nameIndex := 7, descriptorIndex := 8, attributes := #[] }, { accessFlags := 9, nameIndex := 198, descriptorIndex := 121, attributes := #[] }] 49 4 #[] #[{ accessFlags := 25, nameIndex := 354, descriptorIndex := 339, attributes := #[] }, { accessFlags := 25, nameIndex := 358, descriptorIndex := 339, attributes := #[] }, { accessFlags := 25, nameIndex := 361, descriptorIndex := 339, attributes := #[] }, { accessFlags := 26, nameIndex := 364, descriptorIndex := 339, attributes := #[] }, { accessFlags := 26, nameIndex := 365, descriptorIndex := 339, attributes := #[] }, { accessFlags := 26, nameIndex := 172, descriptorIndex := 173, attributes := #[] }, { accessFlags := 26, nameIndex := 176, descriptorIndex := 173, attributes := #[] }, { accessFlags := 8, nameIndex := 344, descriptorIndex := 339, attributes := #[] }, { accessFlags := 8, nameIndex := 338, descriptorIndex := 339, attributes := #[] }, { accessFlags := 4120, nameIndex := 245, descriptorIndex := 246, attributes := #[] }])
  fields := #[{ name := "E", type := .double, accessFlags := 25, slot := 0, constantValue := 0 }, { name := "PI", type := .double, accessFlags := 25, slot := 1, constantValue := 0 }, { name := "TAU", type := .double, accessFlags := 25, slot := 2, constantValue := 0 }, { name := "DEGREES_TO_RADIANS", type := .double, accessFlags := 26, slot := 3, constantValue := 0 }, { name := "RADIANS_TO_DEGREES", type := .double, accessFlags := 26, slot := 4, constantValue := 0 }, { name := "negativeZeroFloatBits", type := .long, accessFlags := 26, slot := 5, constantValue := 0 }, { name := "negativeZeroDoubleBits", type := .long, accessFlags := 26, slot := 6, constantValue := 0 }, { name := "twoToTheDoubleScaleUp", type := .double, accessFlags := 8, slot := 7, constantValue := 0 }, { name := "twoToTheDoubleScaleDown", type := .double, accessFlags := 8, slot := 8, constantValue := 0 }, { name := "$assertionsDisabled", type := .boolean, accessFlags := 4120, slot := 9, constantValue := 0 }]
  methods := #[k3m0, k3m1]
  instanceTypes := #[]
  staticTypes := #[.double, .double, .double, .double, .double, .long, .long, .double, .double, .boolean]
  resolved := Array.replicate 460 none
  statics := none }

def pool4 : Array CpInfo := pool [(1, u "java/lang/Cloneable"), (0, .class_ 1), (0, u "java/lang/Object"), (0, .class_ 3)] 3

/-- java/lang/Cloneable -/
def k4 : Class := { plain "java/lang/Cloneable" (some 0) with
  accessFlags := 1537
  interfaces := #[]
  cf := some (fileOf pool4 2 #[] #[] 1537 4 #[] #[])
  fields := #[]
  methods := #[]
  instanceTypes := #[]
  staticTypes := #[]
  resolved := Array.replicate 8 none
  statics := none }

def pool5 : Array CpInfo := pool [(1, u "java/io/Serializable"), (0, .class_ 1), (0, u "java/lang/Object"), (0, .class_ 3)] 3

/-- java/io/Serializable -/
def k5 : Class := { plain "java/io/Serializable" (some 0) with
  accessFlags := 1537
  interfaces := #[]
  cf := some (fileOf pool5 2 #[] #[] 1537 4 #[] #[])
  fields := #[]
  methods := #[]
  instanceTypes := #[]
  staticTypes := #[]
  resolved := Array.replicate 8 none
  statics := none }

/-- the primitive byte -/
def k6 : Class := { plain "byte" none with kind := .primitive 'B', accessFlags := 0x411 }
/-- [B -/
def k7 : Class := { plain "[B" (some 0) with kind := .array 6 .byte, interfaces := #[4, 5], accessFlags := 1041 }

/-- the primitive int -/
def k8 : Class := { plain "int" none with kind := .primitive 'I', accessFlags := 0x411 }
/-- [I -/
def k9 : Class := { plain "[I" (some 0) with kind := .array 8 .int, interfaces := #[4, 5], accessFlags := 1041 }

def heap : Heap := #[]
def classes : Array Class := #[k0, k1, k2, k3, k4, k5, k6, k7, k8, k9]
def interned : List (Array UInt16 × Addr) := []
def slotsUsed : Nat := 0
def theMethod : MethodId := ⟨1, 1⟩
def args0 : Array Value := #[.long 5, .long 5, .long 5, .long 5, .int 5]
def aboutOver (below : List Frame) : State where
  vm := { classes := classes, interned := interned.toArray }
  heap := heap
  slotsUsed := slotsUsed
  threads := #[{ frames := .invoking theMethod args0 :: below }]
def below0 : List Frame := [.native { method := ⟨0, 0⟩, args := #[] }]
def about1 : State := aboutOver below0
def p0 : Program := .bare "" "" ""
def e0 : Env := launch0.env 0 0 0
theorem w_frames : about1.frames = Frame.invoking theMethod args0 :: below0 := rfl
set_option maxRecDepth 65536 in
theorem w_args : argsFit about1.vm theMethod args0 = true := by decide +kernel
set_option maxRecDepth 65536 in
theorem w_heap : heapFits about1 = true := by decide +kernel
set_option maxRecDepth 65536 in
theorem w_runnable : about1.curStatus? = some .runnable := by decide +kernel
set_option maxRecDepth 65536 in
theorem w_alone : about1.alone = true := by decide +kernel
set_option maxRecDepth 65536 in
theorem w_named : about1.methodNamed? x = some theMethod := by decide +kernel
set_option maxRecDepth 65536 in
theorem w_hears : about1.hears theMethod below0 = true := by decide +kernel
set_option maxRecDepth 65536 in
theorem w_ripe : about1.ripe theMethod args0 below0 = true := by decide +kernel
theorem w_running : about1.status = .running := rfl
set_option maxRecDepth 65536 in
theorem w_room : about1.hasRoom e0.platform room_1 = true :=
  launch0.hasRoom_least _ room_1 (by decide +kernel) (by decide +kernel) (by decide +kernel) (by decide +kernel) (by decide +kernel) (by decide +kernel)
theorem allAtoms_all (ts : List Jvm.Cond) (a : Array Jvm.Value) (st : Jvm.State) : (allAtoms ts).before a st = ts.all (fun c => c.before a st) := by
  induction ts with
  | nil => rfl
  | cons c t ih =>
    show (Jvm.Cond.and c (allAtoms t)).before a st = _
    rw [Jvm.Cond.before_and, ih, List.all_cons]
def words1 : List Jvm.Cond := Jvm.Cond.code x code maxLocals ret :: tables_1
/-- a 'code' word, met by the world's own term for the bytes: nothing is compared byte by byte -/
theorem code_word {y : MethodName} {bytes : ByteArray} {mx : Nat} {rt : Option FieldType} {a : Array Value} {s : State} {m : MethodId} {meth : Method} {c : Code} (h1 : s.methodNamed? y = some m) (h2 : s.vm.method? m = some meth) (h3 : meth.code = some c) (h4 : c.code = bytes)
    (h5 : (c.maxLocals == mx && c.exceptionTable.isEmpty && decide (c.maxStack ≤ mostOperands) && decide (meth.sig.returnType = rt) && !meth.locks && decide (parseMethodDescriptor y.desc = some meth.sig)) = true) : (Jvm.Cond.code y bytes mx rt).before a s = true := by
  simp only [Bool.and_eq_true, beq_iff_eq, Bool.not_eq_true', decide_eq_true_eq] at h5
  obtain ⟨⟨⟨⟨⟨g1, g2⟩, g3⟩, g4⟩, g5⟩, g6⟩ := h5
  simp [Cond.before, Cond.holds, Cond.value, h1, h2, h3, h4, g1, g2, g3, g4, g5, g6]
def isCode : Jvm.Cond → Bool
  | .code _ _ _ _ => true
  | _ => false
theorem all_split {L : List Jvm.Cond} {P : Jvm.Cond → Bool} (h1 : L.all (fun c => isCode c || P c) = true) (h2 : ∀ c ∈ L.filter isCode, P c = true) : L.all P = true := by
  refine List.all_eq_true.mpr fun c hc => ?_
  have h := List.all_eq_true.mp h1 c hc
  rcases Bool.eq_false_or_eq_true (isCode c) with hi | hi
  · exact h2 c (List.mem_filter.mpr ⟨hc, hi⟩)
  · simpa [hi] using h
set_option maxRecDepth 65536 in
theorem w_c0 : (Jvm.Cond.code x code maxLocals ret).before args0 about1 = true := code_word (m := ⟨1, 1⟩) (meth := k1m1) (c := k1c1) (by decide +kernel) rfl rfl rfl (by decide +kernel)
set_option maxRecDepth 65536 in
theorem w_c1 : (Jvm.Cond.code ({ cls := "com/example/millrace/millrace/queue/JournalClock", name := "<init>", desc := "()V" } : Jvm.MethodName) prog_19_method_1_code (1 : Nat) (Option.none : Option Jvm.ClassFile.FieldType)).before args0 about1 = true := code_word (m := ⟨2, 0⟩) (meth := k2m0) (c := k2c0) (by decide +kernel) rfl rfl rfl (by decide +kernel)
set_option maxRecDepth 65536 in
theorem w_c2 : (Jvm.Cond.code ({ cls := "java/lang/Object", name := "<init>", desc := "()V" } : Jvm.MethodName) object_method_1_code (1 : Nat) (Option.none : Option Jvm.ClassFile.FieldType)).before args0 about1 = true := code_word (m := ⟨0, 0⟩) (meth := k0m0) (c := k0c0) (by decide +kernel) rfl rfl rfl (by decide +kernel)
set_option maxRecDepth 65536 in
theorem w_c3 : (Jvm.Cond.code ({ cls := "com/example/millrace/millrace/queue/JournalClock", name := "written", desc := "(J)V" } : Jvm.MethodName) prog_19_method_5_code (5 : Nat) (Option.none : Option Jvm.ClassFile.FieldType)).before args0 about1 = true := code_word (m := ⟨2, 3⟩) (meth := k2m3) (c := k2c3) (by decide +kernel) rfl rfl rfl (by decide +kernel)
set_option maxRecDepth 65536 in
theorem w_c4 : (Jvm.Cond.code ({ cls := "java/lang/Math", name := "max", desc := "(JJ)J" } : Jvm.MethodName) jdk_29_method_66_code (4 : Nat) (Option.some Jvm.ClassFile.FieldType.long)).before args0 about1 = true := code_word (m := ⟨3, 1⟩) (meth := k3m1) (c := k3c1) (by decide +kernel) rfl rfl rfl (by decide +kernel)
set_option maxRecDepth 65536 in
theorem w_c5 : (Jvm.Cond.code ({ cls := "com/example/millrace/millrace/queue/JournalClock", name := "<init>", desc := "(JJJ)V" } : Jvm.MethodName) prog_19_method_2_code (7 : Nat) (Option.none : Option Jvm.ClassFile.FieldType)).before args0 about1 = true := code_word (m := ⟨2, 1⟩) (meth := k2m1) (c := k2c1) (by decide +kernel) rfl rfl rfl (by decide +kernel)
set_option maxRecDepth 65536 in
theorem w_c6 : (Jvm.Cond.code ({ cls := "com/example/millrace/millrace/queue/JournalClock", name := "setTo", desc := "(Lcom/example/millrace/millrace/queue/JournalClock;)V" } : Jvm.MethodName) prog_19_method_4_code (2 : Nat) (Option.none : Option Jvm.ClassFile.FieldType)).before args0 about1 = true := code_word (m := ⟨2, 2⟩) (meth := k2m2) (c := k2c2) (by decide +kernel) rfl rfl rfl (by decide +kernel)
set_option maxRecDepth 65536 in
theorem w_c7 : (Jvm.Cond.code ({ cls := "com/example/millrace/millrace/queue/JournalClock", name := "latestMillis", desc := "()J" } : Jvm.MethodName) prog_19_method_6_code (1 : Nat) (Option.some Jvm.ClassFile.FieldType.long)).before args0 about1 = true := code_word (m := ⟨2, 4⟩) (meth := k2m4) (c := k2c4) (by decide +kernel) rfl rfl rfl (by decide +kernel)
set_option maxRecDepth 65536 in
theorem w_c8 : (Jvm.Cond.code ({ cls := "com/example/millrace/millrace/queue/JournalClock", name := "millis", desc := "()J" } : Jvm.MethodName) prog_19_method_7_code (1 : Nat) (Option.some Jvm.ClassFile.FieldType.long)).before args0 about1 = true := code_word (m := ⟨2, 5⟩) (meth := k2m5) (c := k2c5) (by decide +kernel) rfl rfl rfl (by decide +kernel)
set_option maxRecDepth 65536 in
theorem w_c9 : (Jvm.Cond.code ({ cls := "com/example/millrace/millrace/queue/JournalClock", name := "leadMillis", desc := "()J" } : Jvm.MethodName) prog_19_method_8_code (1 : Nat) (Option.some Jvm.ClassFile.FieldType.long)).before args0 about1 = true := code_word (m := ⟨2, 6⟩) (meth := k2m6) (c := k2c6) (by decide +kernel) rfl rfl rfl (by decide +kernel)
def codes1 : List Jvm.Cond := [Jvm.Cond.code x code maxLocals ret, Jvm.Cond.code ({ cls := "com/example/millrace/millrace/queue/JournalClock", name := "<init>", desc := "()V" } : Jvm.MethodName) prog_19_method_1_code (1 : Nat) (Option.none : Option Jvm.ClassFile.FieldType), Jvm.Cond.code ({ cls := "java/lang/Object", name := "<init>", desc := "()V" } : Jvm.MethodName) object_method_1_code (1 : Nat) (Option.none : Option Jvm.ClassFile.FieldType), Jvm.Cond.code ({ cls := "com/example/millrace/millrace/queue/JournalClock", name := "written", desc := "(J)V" } : Jvm.MethodName) prog_19_method_5_code (5 : Nat) (Option.none : Option Jvm.ClassFile.FieldType), Jvm.Cond.code ({ cls := "java/lang/Math", name := "max", desc := "(JJ)J" } : Jvm.MethodName) jdk_29_method_66_code (4 : Nat) (Option.some Jvm.ClassFile.FieldType.long), Jvm.Cond.code ({ cls := "com/example/millrace/millrace/queue/JournalClock", name := "<init>", desc := "(JJJ)V" } : Jvm.MethodName) prog_19_method_2_code (7 : Nat) (Option.none : Option Jvm.ClassFile.FieldType), Jvm.Cond.code ({ cls := "com/example/millrace/millrace/queue/JournalClock", name := "setTo", desc := "(Lcom/example/millrace/millrace/queue/JournalClock;)V" } : Jvm.MethodName) prog_19_method_4_code (2 : Nat) (Option.none : Option Jvm.ClassFile.FieldType), Jvm.Cond.code ({ cls := "com/example/millrace/millrace/queue/JournalClock", name := "latestMillis", desc := "()J" } : Jvm.MethodName) prog_19_method_6_code (1 : Nat) (Option.some Jvm.ClassFile.FieldType.long), Jvm.Cond.code ({ cls := "com/example/millrace/millrace/queue/JournalClock", name := "millis", desc := "()J" } : Jvm.MethodName) prog_19_method_7_code (1 : Nat) (Option.some Jvm.ClassFile.FieldType.long), Jvm.Cond.code ({ cls := "com/example/millrace/millrace/queue/JournalClock", name := "leadMillis", desc := "()J" } : Jvm.MethodName) prog_19_method_8_code (1 : Nat) (Option.some Jvm.ClassFile.FieldType.long)]
set_option maxRecDepth 65536 in
theorem codes_eq : words1.filter isCode = codes1 := rfl
theorem w_codes : ∀ c ∈ words1.filter isCode, c.before args0 about1 = true := by
  rw [codes_eq]
  intro c hc
  simp only [codes1, List.mem_cons, List.not_mem_nil, or_false] at hc
  rcases hc with rfl | rfl | rfl | rfl | rfl | rfl | rfl | rfl | rfl | rfl
  · exact w_c0
  · exact w_c1
  · exact w_c2
  · exact w_c3
  · exact w_c4
  · exact w_c5
  · exact w_c6
  · exact w_c7
  · exact w_c8
  · exact w_c9
set_option maxRecDepth 65536 in
theorem w_t1 : (words1.take 24).all (fun c => isCode c || c.before args0 about1) = true := by decide +kernel
set_option maxRecDepth 65536 in
theorem w_t2 : ((words1.drop 24).take 24).all (fun c => isCode c || c.before args0 about1) = true := by decide +kernel
set_option maxRecDepth 65536 in
theorem w_t3 : ((words1.drop 24).drop 24).all (fun c => isCode c || c.before args0 about1) = true := by decide +kernel
theorem w_tables : (allAtoms (Jvm.Cond.code x code maxLocals ret :: tables_1)).before args0 about1 = true := by
  rw [allAtoms_all]
  show words1.all (fun c => c.before args0 about1) = true
  refine all_split ?_ w_codes
  rw [← List.take_append_drop 24 words1, List.all_append, w_t1, ← List.take_append_drop 24 (words1.drop 24), List.all_append, w_t2, w_t3]
  rfl
set_option maxRecDepth 65536 in
theorem w_case : (Jvm.Cond.and given_1 narrow_1).before args0 about1 = true := by decide +kernel
theorem w_applies : (headSpec (Jvm.Cond.code x code maxLocals ret :: tables_1) room_1).applies x e0.platform about1 = true :=
  (Spec.applies_iff w_frames).mpr ⟨w_running, w_runnable, w_alone, w_named, w_hears, w_ripe, w_room, w_tables⟩
theorem atStart : AtStart classFile x code maxLocals ret World_1 tables_1 room_1 Calls_1 rest_1 Pre_1 launch0 p0 e0 about1 theMethod args0 below0 :=
  ⟨lists_1, trivial, launch0.admits_env _ _ _, launch0.least_env, fairChoices_fair.cas, fairChoices_fair.clock, w_frames, w_args, w_heap, w_applies, trivial, trivial, w_case⟩
end start1
theorem witness_1 : WitnessClaimed_1 := ⟨start1.p0, start1.e0, start1.about1, start1.theMethod, start1.args0, start1.below0, start1.atStart⟩
end Jvm.Pilot.@@N@@
