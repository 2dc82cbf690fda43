import JvmDerived
import JvmDerived.Pilot.@@N@@Statement
import JvmDerived.Pilot.@@N@@Code
set_option linter.unusedVariables false
set_option linter.unusedSimpArgs false
namespace Jvm.Pilot.@@N@@
open Jvm Jvm.ClassFile Sem Op Lib Jvm.Free Jvm.Stand Jvm.LawKit Jvm.RoadKit Bundle Jvm.Pilot.@@N@@.Jvm.D
section OwnKit
variable {p : Program} {l : Launch} {e : Env} {R : Room} {s : State} {m : MethodId} {args : Array Value} {below : List Frame} {meth : Method} {c : Code} {T : State} {locs : List Loc} {cells slots : Nat}
/-- from the state A the body runs to its end and leaves what Q says -/
def own_Go (p : Program) (e : Env) (below : List Frame) (s : State) (Q : Option Value → Heap → List Loc → Prop) (kc ks : Nat) (A : State) : Prop :=
  ∃ s₂ o, Steps p.tables e below A s₂ ∧ s₂.status = .running ∧ Ended s₂ below o ∧ ∃ v L, o = .returned v ∧ Q v s₂.heap L ∧ FrameEnd s o s₂ L kc ks
theorem own_go {Q : Option Value → Heap → List Loc → Prop} {kc ks : Nat} {A B : State} (h : ∀ t, Steps p.tables e below B t → Steps p.tables e below A t) (k : own_Go p e below s Q kc ks B) : own_Go p e below s Q kc ks A := by
  obtain ⟨s₂, o, h1, h2⟩ := k
  exact ⟨s₂, o, h _ h1, h2⟩
/-- from the state A the body runs to the frame g', the heap as it was -/
def own_Arm (p : Program) (l : Launch) (e : Env) (R : Room) (s : State) (m : MethodId) (args : Array Value) (below : List Frame) (meth : Method) (c : Code) (cells slots n0 : Nat) (h : Heap) (g' : JFrame) (A : State) : Prop :=
  ∃ (T' : State) (locs' : List Loc), Stand p l e R s m args below meth c T' locs' cells slots ∧ Fr n0 locs' ∧ T'.heap = h ∧ ∀ t, Steps p.tables e below (T'.setTop g') t → Steps p.tables e below A t
theorem own_arm {n0 : Nat} {h : Heap} {g' : JFrame} {A B : State} (k1 : ∀ t, Steps p.tables e below B t → Steps p.tables e below A t) (k : own_Arm p l e R s m args below meth c cells slots n0 h g' B) : own_Arm p l e R s m args below meth c cells slots n0 h g' A := by
  obtain ⟨T', locs', h1, h2, h3, h4⟩ := k
  exact ⟨T', locs', h1, h2, h3, fun t kt => k1 t (h4 t kt)⟩
theorem own_armEnd {n0 : Nat} {h : Heap} {g g' : JFrame} (X : Stand p l e R s m args below meth c T locs cells slots) (N : Fr n0 locs) (eT : T.heap = h) (q : g' = g) : own_Arm p l e R s m args below meth c cells slots n0 h g' (T.setTop g) :=
  ⟨T, locs, X, N, eT, fun t kt => q ▸ kt⟩
theorem own_mrg {n0 : Nat} {h : Heap} {g g' : JFrame} (X : Stand p l e R s m args below meth c T locs cells slots) (k : own_Arm p l e R s m args below meth c cells slots n0 h g' (T.setTop g)) :
    ∃ (T' : State) (locs' : List Loc), Stand p l e R s m args below meth c T' locs' cells slots ∧ Fr n0 locs' ∧ T'.heap = h ∧ ∀ t, Steps p.tables e below (T'.setTop g') t → Steps p.tables e below (T.setTop g) t := k
theorem own_leave {Q : Option Value → Heap → List Loc → Prop} {kc ks : Nat} {A : State} {v : Option Value} (X : Stand p l e R s m args below meth c T locs cells slots) (hv : meth.sig.returnType = none → v = none) (hlk : meth.locks = false)
    (hc : cells ≤ kc) (hs : slots ≤ ks) (hQ : Q v T.heap locs) (k : ∀ fs, (∀ (f : JFrame) (acts : List Action), f.method = m → f.locked = none → f.entered = [] → (doReturn e (T.setTop f) acts v).1 = T.setFrames fs) → Steps p.tables e below A (T.setFrames fs)) : own_Go p e below s Q kc ks A := by
  obtain ⟨fs, hr, hrun, hended, hW, hsame⟩ := X.leave (v := v) hv hlk
  exact ⟨_, _, k fs hr, hrun, hended, _, _, rfl, hQ, ⟨_, rfl⟩, hW, hsame.mono hc hs⟩
theorem own_retI {Q : Option Value → Heap → List Loc → Prop} {kc ks pc : Nat} {Ls : Array Slot} {z : Int32} {rest : List Value} (X : Stand p l e R s m args below meth c T locs cells slots) (hx : p.tables.exec = Jvm.exec) (hret : meth.sig.returnType = some .int) (hlk : meth.locks = false)
    (hd : decode c.code pc = .ok (.ireturn, 1)) (hc : cells ≤ kc) (hs : slots ≤ ks) (hQ : Q (some (.int z)) T.heap locs) : own_Go p e below s Q kc ks (T.setTop (mkF m pc Ls (.int z :: rest))) := by
  refine own_leave X (fun h => by rw [hret] at h; cases h) hlk hc hs hQ fun fs hl => ?_
  have hm' : T.vm.method? m = some meth := X.method'
  have hn : narrow .int (.int z) = .int z := rfl
  show Steps p.tables e below (T.setTop { method := m, pc := pc, locals := Ls, stack := _ :: rest, locked := none }) _
  jvm_step X.here [X.here.top, hx, hd, hm', hret, hn]
  first | (intro acts; rw [hl _ acts rfl rfl rfl]) | rw [hl _ _ rfl rfl rfl]
  exact Steps.refl _
theorem own_retN {Q : Option Value → Heap → List Loc → Prop} {kc ks pc : Nat} {Ls : Array Slot} {z : Int32} {rest : List Value} {t : FieldType} (X : Stand p l e R s m args below meth c T locs cells slots) (hx : p.tables.exec = Jvm.exec) (hret : meth.sig.returnType = some t) (ht : t = .boolean ∨ t = .byte ∨ t = .char ∨ t = .short) (hlk : meth.locks = false)
    (hd : decode c.code pc = .ok (.ireturn, 1)) (hc : cells ≤ kc) (hs : slots ≤ ks) (hQ : Q (some (.int (nar t z))) T.heap locs) : own_Go p e below s Q kc ks (T.setTop (mkF m pc Ls (.int z :: rest))) :=
  own_leave X (fun h => by rw [hret] at h; cases h) hlk hc hs hQ fun fs hl => retN X hx (t := t) hret ht hd hl
theorem own_nar01 {z : Int32} (h : z = 0 ∨ z = 1) : nar .boolean z = z := by rcases h with rfl | rfl <;> rfl
theorem own_retZ {Q : Option Value → Heap → List Loc → Prop} {kc ks pc : Nat} {Ls : Array Slot} {z : Int32} {rest : List Value} (X : Stand p l e R s m args below meth c T locs cells slots) (hx : p.tables.exec = Jvm.exec) (hret : meth.sig.returnType = some .boolean) (hlk : meth.locks = false)
    (hd : decode c.code pc = .ok (.ireturn, 1)) (hc : cells ≤ kc) (hs : slots ≤ ks) (hz : z = 0 ∨ z = 1) (hQ : Q (some (.int z)) T.heap locs) : own_Go p e below s Q kc ks (T.setTop (mkF m pc Ls (.int z :: rest))) :=
  own_retN X hx hret (Or.inl rfl) hlk hd hc hs (by rw [own_nar01 hz]; exact hQ)
theorem own_retJ {Q : Option Value → Heap → List Loc → Prop} {kc ks pc : Nat} {Ls : Array Slot} {z : Int64} (X : Stand p l e R s m args below meth c T locs cells slots) (hx : p.tables.exec = Jvm.exec) (hret : meth.sig.returnType = some .long) (hlk : meth.locks = false)
    (hd : decode c.code pc = .ok (.lreturn, 1)) (hc : cells ≤ kc) (hs : slots ≤ ks) (hQ : Q (some (.long z)) T.heap locs) : own_Go p e below s Q kc ks (T.setTop (mkF m pc Ls [.long z])) :=
  own_leave X (fun h => by rw [hret] at h; cases h) hlk hc hs hQ fun fs hl => X.lreturnOut hx hret hd hl
theorem own_retA {Q : Option Value → Heap → List Loc → Prop} {kc ks pc : Nat} {Ls : Array Slot} {w : Value} {t : FieldType} {rest : List Value} (X : Stand p l e R s m args below meth c T locs cells slots) (hx : p.tables.exec = Jvm.exec) (hret : meth.sig.returnType = some t) (ht : t.isReference = true) (hw : w.isRef = true) (hlk : meth.locks = false)
    (hd : decode c.code pc = .ok (.areturn, 1)) (hc : cells ≤ kc) (hs : slots ≤ ks) (hQ : Q (some w) T.heap locs) : own_Go p e below s Q kc ks (T.setTop (mkF m pc Ls (w :: rest))) := by
  refine own_leave X (fun h => by rw [hret] at h; cases h) hlk hc hs hQ fun fs hl => ?_
  have hm' : T.vm.method? m = some meth := X.method'
  show Steps p.tables e below (T.setTop { method := m, pc := pc, locals := Ls, stack := _ :: rest, locked := none }) _
  rcases ref_cases hw with rfl | ⟨a, rfl⟩
  all_goals
    jvm_step X.here [X.here.top, hx, hd, hm', hret, Value.isRef, ht]
    first | (intro acts; rw [hl _ acts rfl rfl rfl]) | rw [hl _ _ rfl rfl rfl]
    exact Steps.refl _
theorem own_retV {Q : Option Value → Heap → List Loc → Prop} {kc ks pc : Nat} {Ls : Array Slot} (X : Stand p l e R s m args below meth c T locs cells slots) (hx : p.tables.exec = Jvm.exec) (hret : meth.sig.returnType = none) (hlk : meth.locks = false)
    (hd : decode c.code pc = .ok (.return_, 1)) (hc : cells ≤ kc) (hs : slots ≤ ks) (hQ : Q none T.heap locs) : own_Go p e below s Q kc ks (T.setTop (mkF m pc Ls [])) :=
  own_leave X (fun _ => rfl) hlk hc hs hQ fun fs hl => X.returnOut hx hret hd hl
theorem own_getFR {Z : State} {a0 : Array Value} {h : Heap} (X : Stand p l e R s m args below meth c T locs cells slots) (hx : p.tables.exec = Jvm.exec) (hZ : Z.Warmed39 s.vm) {own O n d : String} {index : Nat} (hown : s.vm.findClass own = some m.cls) (w : (Jvm.Cond.fieldRef own index O n d).before a0 Z = true)
    (eT : T.heap = h) {a : Addr} {v : Value} (F : Fld Z h a O n d v) {g : JFrame} (hg : g.method = m) {rest : List Value} (hs : g.stack = .ref a :: rest) (hd : decode c.code g.pc = .ok (.getfield index, 3)) (target : State) (k : Steps p.tables e below (T.setTop { g with pc := g.pc + 3, stack := v :: rest }) target) : Steps p.tables e below (T.setTop g) target := by
  obtain ⟨cell, cf, kc, i, f, h1, h2, h3, h4, -, -, h7⟩ := F
  have hW : Z.Warmed39 T.vm := wtrans hZ X.warmed
  have w2 := Cond.fieldRef_warmed39 hW w
  obtain ⟨k', hi, -⟩ := State.fieldFound?_setVm (s := Z) hW.alike h2
  have hc : (Z.setVm T.vm).vm.findClass own = some m.cls := by show T.vm.findClass own = _; rw [X.warmed.alike.findClass]; exact hown
  obtain ⟨c1, k1, i1, f1, e1, hr⟩ := Cond.fieldRef_spec hc w2
  cases hi.symm.trans e1
  exact (X.getfieldR hx hg (cF := cf) (field := f) hr h3 hs (by rw [eT]; exact h1) h4 h7 hd (Steps.refl _)).trans k
theorem own_ite01 {c : Prop} [Decidable c] {a b : Int32} (ha : a = 0 ∨ a = 1) (hb : b = 0 ∨ b = 1) : (if c then a else b) = 0 ∨ (if c then a else b) = 1 := by split <;> assumption
end OwnKit
theorem own_lc_eq {a b : Int64} (h : a = b) : lcmpW a b = 0 := by subst h; simp [lcmpW]
theorem own_lc_neq {a b : Int64} (h : ¬ (a = b)) : ¬ (lcmpW a b = 0) := by unfold lcmpW; split <;> first | decide | (rw [if_neg h]; decide)
theorem own_lc_lt {a b : Int64} (h : a < b) : lcmpW a b < 0 := by
  have h1 : ¬ (a > b) := fun q => Int64.lt_irrefl (Int64.lt_trans h q)
  have h2 : ¬ (a = b) := fun q => by subst q; exact Int64.lt_irrefl h
  rw [lcmpW, if_neg h1, if_neg h2]; decide
theorem own_lc_nlt {a b : Int64} (h : ¬ (a < b)) : ¬ (lcmpW a b < 0) := by
  unfold lcmpW
  split
  · decide
  · rename_i h1
    split
    · decide
    · rename_i h2; exact absurd (Int64.le_antisymm (Int64.not_lt.mp h1) (Int64.not_lt.mp h)) h2
theorem own_lc_gt {a b : Int64} (h : b < a) : (0 : Int32) < lcmpW a b := by rw [lcmpW, if_pos h]; decide
theorem own_lc_ngt {a b : Int64} (h : ¬ (b < a)) : ¬ ((0 : Int32) < lcmpW a b) := by
  rw [lcmpW, if_neg h]; split <;> decide
theorem own_rn {w : Value} {C : String} (h : w.isRef = true) : narrow (.object C) w = w := by rcases ref_cases h with rfl | ⟨a, rfl⟩ <;> rfl
theorem own_rf {w : Value} {C : String} (h : w.isRef = true) : fits (.object C) w = true := by rcases ref_cases h with rfl | ⟨a, rfl⟩ <;> rfl
theorem own_plainE {Z : State} {h : Heap} {a : Addr} {C : String} (E : Exa Z h a C) : ∀ cell : Cell, h[a]? = some cell → cell.vm.isStatics = false := fun cell hc => by
  obtain ⟨c, k, h1, -, -, h4, -⟩ := E
  cases h1.symm.trans hc; exact h4
theorem own_staKeep {Z : State} {h h' : Heap} {C n d : String} {v : Value} {ws : List Addr} (F : Sta Z h C n d v) (K : Keep h h' ws) (q : ∀ x ∈ ws, ∀ cell : Cell, h[x]? = some cell → cell.vm.isStatics = false) : Sta Z h' C n d v := by
  obtain ⟨cf, i, k, f, st, cell, h1, h2, h3, h4, h5, h6, h7⟩ := F
  exact ⟨cf, i, k, f, st, cell, h1, h2, h3, h4, K.2.1 st cell h5 (fun hm => by rw [q st hm cell h5] at h6; cases h6), h6, h7⟩
theorem d1_0 : decode prog_91_method_3_code 0 = .ok (.iload_n 0, 1) := by decide +kernel
theorem d1_1 : decode prog_91_method_3_code 1 = .ok (.ldc 29, 2) := by decide +kernel
theorem d1_3 : decode prog_91_method_3_code 3 = .ok (.if_icmp .lt 9, 3) := by decide +kernel
theorem d1_6 : decode prog_91_method_3_code 6 = .ok (.iload_n 0, 1) := by decide +kernel
theorem d1_7 : decode prog_91_method_3_code 7 = .ok (.sipush 2048, 3) := by decide +kernel
theorem d1_10 : decode prog_91_method_3_code 10 = .ok (.isub, 1) := by decide +kernel
theorem d1_11 : decode prog_91_method_3_code 11 = .ok (.ireturn, 1) := by decide +kernel
theorem d1_12 : decode prog_91_method_3_code 12 = .ok (.iload_n 0, 1) := by decide +kernel
theorem d1_13 : decode prog_91_method_3_code 13 = .ok (.ldc 32, 2) := by decide +kernel
theorem d1_15 : decode prog_91_method_3_code 15 = .ok (.if_icmp .lt 9, 3) := by decide +kernel
theorem d1_18 : decode prog_91_method_3_code 18 = .ok (.iload_n 0, 1) := by decide +kernel
theorem d1_19 : decode prog_91_method_3_code 19 = .ok (.sipush 8192, 3) := by decide +kernel
theorem d1_22 : decode prog_91_method_3_code 22 = .ok (.iadd, 1) := by decide +kernel
theorem d1_23 : decode prog_91_method_3_code 23 = .ok (.ireturn, 1) := by decide +kernel
theorem d1_24 : decode prog_91_method_3_code 24 = .ok (.iload_n 0, 1) := by decide +kernel
theorem d1_25 : decode prog_91_method_3_code 25 = .ok (.ireturn, 1) := by decide +kernel
theorem ef_1 (m : MethodId) (p0 : Int32) : entryFrame m #[(.int p0)] 1 = mkF m 0 #[.val (.int p0)] [] := by (first | (simp [entryFrame, mkF, argsToLocals, Value.category]; done) | rfl)
def own_r1 (p0 : Int32) : Int32 := (if p0 < (57344 : Int32) then (if p0 < (55296 : Int32) then p0 else (p0 + (8192 : Int32))) else (p0 - (2048 : Int32)))
theorem pn0 : plainName "inducere/Utf8Order" = true := by first | (simp [plainName, overriddenIn]; done) | decide +kernel
def Q1 (Z : State) (p0 : Int32) (h0 : Heap) (n0 : Nat) (v : Option Value) (h : Heap) (L : List Loc) : Prop := v = some (.int (own_r1 p0)) ∧ Fr n0 L ∧ h = h0
set_option maxRecDepth 65536 in
set_option maxHeartbeats 40000000 in
theorem rm1 (l : Launch) (Z : State) (a0 : Array Value) (hw : ∀ d ∈ tables_1, d.before a0 Z = true) (ws : List Jvm.Cond) (p0 : Int32) (h0 : Heap) (n0 : Nat) (Z0 : n0 ≤ h0.size) :
    MetFree l (⟨"inducere/Utf8Order", "rank", "(C)I"⟩ : MethodName) (head1 (Jvm.Cond.code (⟨"inducere/Utf8Order", "rank", "(C)I"⟩ : MethodName) prog_91_method_3_code 1 (some .int) :: ws) ({ frames := 0, cells := 0, slots := 0, locals := 0 } : Room)) (fun a U => a = #[(.int p0)] ∧ Z.Warmed39 U.vm ∧ U.heap = h0) (fun _ _ _ _ _ => True) (fun _ U o U' => ∃ v L, o = .returned v ∧ Q1 Z p0 h0 n0 v U'.heap L ∧ FrameEnd U o U' L ({ frames := 0, cells := 0, slots := 0, locals := 0 } : Room).cells ({ frames := 0, cells := 0, slots := 0, locals := 0 } : Room).slots) := by
  refine MetFree.of_bodySF (plainFor_of_name pn0) hisR ?_
  intro p e s m args below meth c s₁ Bd hml0 hP hK
  obtain ⟨rfl, hZ, hh⟩ := hP
  have hx := Bd.exec
  have hby := Bd.bytes
  have hml : c.maxLocals = 1 := hml0
  have hown : s.vm.findClass "inducere/Utf8Order" = some m.cls := findClass_of_methodNamed Bd.named
  have hnm := (name_of_methodNamed Bd.named Bd.method).1
  have X0 : Stand p l e ({ frames := 0, cells := 0, slots := 0, locals := 0 } : Room) s m #[(.int p0)] below meth c s₁ [] 0 0 := Stand.of_body Bd
  have e0 : s₁.heap = h0 := by rw [← hh, Bd.state]; rfl
  have N0 := Fr.nil n0
  have K0 : Keep h0 h0 [] := Keep.refl h0 _
  show own_Go p e below s (Q1 Z p0 h0 n0) ({ frames := 0, cells := 0, slots := 0, locals := 0 } : Room).cells ({ frames := 0, cells := 0, slots := 0, locals := 0 } : Room).slots (s₁.setTop (entryFrame m #[(.int p0)] 1))
  refine own_go (fun t k => castTop (ef_1 m p0) k) ?_
  have hgo101 : ∀ t, Steps p.tables e below (s₁.setTop (mkF m 3 #[.val (.int p0)] [(.int (57344 : Int32)), (.int p0)])) t → Steps p.tables e below (s₁.setTop (mkF m 0 #[.val (.int p0)] [])) t := by
    intro t kt
    show Steps p.tables e below (s₁.setTop (mkF m 0 #[.val (.int p0)] [])) _
    refine XS.iloadN X0.here hx rfl (hb hby d1_0) rfl ?_
    show Steps p.tables e below (s₁.setTop (mkF m 1 #[.val (.int p0)] [(.int p0)])) _
    refine X0.ldcInt hx hown (mvT hZ (hw _ (List.mem_of_getElem? (i := 4) rfl))) (g := (mkF m 1 #[.val (.int p0)] [(.int p0)])) rfl (hb hby d1_1) _ ?_
    exact kt
  refine own_go hgo101 ?_
  by_cases hc3_1 : p0 < (57344 : Int32)
  · have hgo102 : ∀ t, Steps p.tables e below (s₁.setTop (mkF m 15 #[.val (.int p0)] [(.int (55296 : Int32)), (.int p0)])) t → Steps p.tables e below (s₁.setTop (mkF m 3 #[.val (.int p0)] [(.int (57344 : Int32)), (.int p0)])) t := by
      intro t kt
      show Steps p.tables e below (s₁.setTop (mkF m 3 #[.val (.int p0)] [(.int (57344 : Int32)), (.int p0)])) _
      refine XS.icmpYes X0.here hx rfl (pc0 := 3) (pc' := 12) rfl (hb hby d1_3) rfl (tlt hc3_1).1 (by decide) (by decide) ?_
      show Steps p.tables e below (s₁.setTop (mkF m 12 #[.val (.int p0)] [])) _
      refine XS.iloadN X0.here hx rfl (hb hby d1_12) rfl ?_
      show Steps p.tables e below (s₁.setTop (mkF m 13 #[.val (.int p0)] [(.int p0)])) _
      refine X0.ldcInt hx hown (mvT hZ (hw _ (List.mem_of_getElem? (i := 5) rfl))) (g := (mkF m 13 #[.val (.int p0)] [(.int p0)])) rfl (hb hby d1_13) _ ?_
      exact kt
    refine own_go hgo102 ?_
    by_cases hc15_2 : p0 < (55296 : Int32)
    · have hgo103 : ∀ t, Steps p.tables e below (s₁.setTop (mkF m 25 #[.val (.int p0)] [(.int p0)])) t → Steps p.tables e below (s₁.setTop (mkF m 15 #[.val (.int p0)] [(.int (55296 : Int32)), (.int p0)])) t := by
        intro t kt
        show Steps p.tables e below (s₁.setTop (mkF m 15 #[.val (.int p0)] [(.int (55296 : Int32)), (.int p0)])) _
        refine XS.icmpYes X0.here hx rfl (pc0 := 15) (pc' := 24) rfl (hb hby d1_15) rfl (tlt hc15_2).1 (by decide) (by decide) ?_
        show Steps p.tables e below (s₁.setTop (mkF m 24 #[.val (.int p0)] [])) _
        refine XS.iloadN X0.here hx rfl (hb hby d1_24) rfl ?_
        exact kt
      refine own_go hgo103 ?_
      exact own_retI X0 hx Bd.returns Bd.notSynchronized (hb hby d1_25) (by decide) (by decide) (by rw [e0]; exact ⟨(by rw [own_r1, if_pos hc3_1, if_pos hc15_2]), N0, rfl⟩)
    · obtain ⟨v3, hv3⟩ : ∃ z : Int32, z = (p0 + (8192 : Int32)) := ⟨_, rfl⟩
      have hgo104 : ∀ t, Steps p.tables e below (s₁.setTop (mkF m 23 #[.val (.int p0)] [(.int v3)])) t → Steps p.tables e below (s₁.setTop (mkF m 15 #[.val (.int p0)] [(.int (55296 : Int32)), (.int p0)])) t := by
        intro t kt
        show Steps p.tables e below (s₁.setTop (mkF m 15 #[.val (.int p0)] [(.int (55296 : Int32)), (.int p0)])) _
        refine XS.icmpNo X0.here hx rfl (hb hby d1_15) rfl (flt hc15_2).1 ?_
        show Steps p.tables e below (s₁.setTop (mkF m 18 #[.val (.int p0)] [])) _
        refine XS.iloadN X0.here hx rfl (hb hby d1_18) rfl ?_
        show Steps p.tables e below (s₁.setTop (mkF m 19 #[.val (.int p0)] [(.int p0)])) _
        refine XS.sipush X0.here hx rfl (hb hby d1_19) ?_
        show Steps p.tables e below (s₁.setTop (mkF m 22 #[.val (.int p0)] [(.int (8192 : Int32)), (.int p0)])) _
        refine XS.iadd X0.here hx rfl (hb hby d1_22) rfl ?_
        rw [← hv3]
        exact kt
      refine own_go hgo104 ?_
      exact own_retI X0 hx Bd.returns Bd.notSynchronized (hb hby d1_23) (by decide) (by decide) (by rw [e0]; exact ⟨(by subst hv3; rw [own_r1, if_pos hc3_1, if_neg hc15_2]), N0, rfl⟩)
  · obtain ⟨v4, hv4⟩ : ∃ z : Int32, z = (p0 - (2048 : Int32)) := ⟨_, rfl⟩
    have hgo105 : ∀ t, Steps p.tables e below (s₁.setTop (mkF m 11 #[.val (.int p0)] [(.int v4)])) t → Steps p.tables e below (s₁.setTop (mkF m 3 #[.val (.int p0)] [(.int (57344 : Int32)), (.int p0)])) t := by
      intro t kt
      show Steps p.tables e below (s₁.setTop (mkF m 3 #[.val (.int p0)] [(.int (57344 : Int32)), (.int p0)])) _
      refine XS.icmpNo X0.here hx rfl (hb hby d1_3) rfl (flt hc3_1).1 ?_
      show Steps p.tables e below (s₁.setTop (mkF m 6 #[.val (.int p0)] [])) _
      refine XS.iloadN X0.here hx rfl (hb hby d1_6) rfl ?_
      show Steps p.tables e below (s₁.setTop (mkF m 7 #[.val (.int p0)] [(.int p0)])) _
      refine XS.sipush X0.here hx rfl (hb hby d1_7) ?_
      show Steps p.tables e below (s₁.setTop (mkF m 10 #[.val (.int p0)] [(.int (2048 : Int32)), (.int p0)])) _
      refine XS.isub X0.here hx rfl (hb hby d1_10) rfl ?_
      rw [← hv4]
      exact kt
    refine own_go hgo105 ?_
    exact own_retI X0 hx Bd.returns Bd.notSynchronized (hb hby d1_11) (by decide) (by decide) (by rw [e0]; exact ⟨(by subst hv4; rw [own_r1, if_neg hc3_1]), N0, rfl⟩)
theorem d3_0 : decode method_2_code 0 = .ok (.iload_n 0, 1) := by decide +kernel
theorem d3_1 : decode method_2_code 1 = .ok (.ldc 7, 2) := by decide +kernel
theorem d3_3 : decode method_2_code 3 = .ok (.if_icmp .ge 5, 3) := by decide +kernel
theorem d3_6 : decode method_2_code 6 = .ok (.iconst 0, 1) := by decide +kernel
theorem d3_7 : decode method_2_code 7 = .ok (.ireturn, 1) := by decide +kernel
theorem d3_8 : decode method_2_code 8 = .ok (.iload_n 0, 1) := by decide +kernel
theorem d3_9 : decode method_2_code 9 = .ok (.ldc 8, 2) := by decide +kernel
theorem d3_11 : decode method_2_code 11 = .ok (.if_icmp .ge 5, 3) := by decide +kernel
theorem d3_14 : decode method_2_code 14 = .ok (.iconst 2, 1) := by decide +kernel
theorem d3_15 : decode method_2_code 15 = .ok (.ireturn, 1) := by decide +kernel
theorem d3_16 : decode method_2_code 16 = .ok (.iconst 1, 1) := by decide +kernel
theorem d3_17 : decode method_2_code 17 = .ok (.ireturn, 1) := by decide +kernel
theorem ef_3 (m : MethodId) (p0 : Int32) : entryFrame m #[(.int p0)] 1 = mkF m 0 #[.val (.int p0)] [] := by (first | (simp [entryFrame, mkF, argsToLocals, Value.category]; done) | rfl)
def own_r3 (p0 : Int32) : Int32 := (if p0 < (55296 : Int32) then (0 : Int32) else (if p0 < (57344 : Int32) then (2 : Int32) else (1 : Int32)))
theorem pn1 : plainName "inducere/Utf8OrderRankPinLaw" = true := by first | (simp [plainName, overriddenIn]; done) | decide +kernel
def Q3 (Z : State) (p0 : Int32) (h0 : Heap) (n0 : Nat) (v : Option Value) (h : Heap) (L : List Loc) : Prop := v = some (.int (own_r3 p0)) ∧ Fr n0 L ∧ h = h0
set_option maxRecDepth 65536 in
set_option maxHeartbeats 40000000 in
theorem rm3 (l : Launch) (Z : State) (a0 : Array Value) (hw : ∀ d ∈ tables_1, d.before a0 Z = true) (ws : List Jvm.Cond) (p0 : Int32) (h0 : Heap) (n0 : Nat) (Z0 : n0 ≤ h0.size) :
    MetFree l (⟨"inducere/Utf8OrderRankPinLaw", "group", "(C)I"⟩ : MethodName) (head1 (Jvm.Cond.code (⟨"inducere/Utf8OrderRankPinLaw", "group", "(C)I"⟩ : MethodName) method_2_code 1 (some .int) :: ws) ({ frames := 0, cells := 0, slots := 0, locals := 0 } : Room)) (fun a U => a = #[(.int p0)] ∧ Z.Warmed39 U.vm ∧ U.heap = h0) (fun _ _ _ _ _ => True) (fun _ U o U' => ∃ v L, o = .returned v ∧ Q3 Z p0 h0 n0 v U'.heap L ∧ FrameEnd U o U' L ({ frames := 0, cells := 0, slots := 0, locals := 0 } : Room).cells ({ frames := 0, cells := 0, slots := 0, locals := 0 } : Room).slots) := by
  refine MetFree.of_bodySF (plainFor_of_name pn1) hisR ?_
  intro p e s m args below meth c s₁ Bd hml0 hP hK
  obtain ⟨rfl, hZ, hh⟩ := hP
  have hx := Bd.exec
  have hby := Bd.bytes
  have hml : c.maxLocals = 1 := hml0
  have hown : s.vm.findClass "inducere/Utf8OrderRankPinLaw" = some m.cls := findClass_of_methodNamed Bd.named
  have hnm := (name_of_methodNamed Bd.named Bd.method).1
  have X0 : Stand p l e ({ frames := 0, cells := 0, slots := 0, locals := 0 } : Room) s m #[(.int p0)] below meth c s₁ [] 0 0 := Stand.of_body Bd
  have e0 : s₁.heap = h0 := by rw [← hh, Bd.state]; rfl
  have N0 := Fr.nil n0
  have K0 : Keep h0 h0 [] := Keep.refl h0 _
  show own_Go p e below s (Q3 Z p0 h0 n0) ({ frames := 0, cells := 0, slots := 0, locals := 0 } : Room).cells ({ frames := 0, cells := 0, slots := 0, locals := 0 } : Room).slots (s₁.setTop (entryFrame m #[(.int p0)] 1))
  refine own_go (fun t k => castTop (ef_3 m p0) k) ?_
  have hgo101 : ∀ t, Steps p.tables e below (s₁.setTop (mkF m 3 #[.val (.int p0)] [(.int (55296 : Int32)), (.int p0)])) t → Steps p.tables e below (s₁.setTop (mkF m 0 #[.val (.int p0)] [])) t := by
    intro t kt
    show Steps p.tables e below (s₁.setTop (mkF m 0 #[.val (.int p0)] [])) _
    refine XS.iloadN X0.here hx rfl (hb hby d3_0) rfl ?_
    show Steps p.tables e below (s₁.setTop (mkF m 1 #[.val (.int p0)] [(.int p0)])) _
    refine X0.ldcInt hx hown (mvT hZ (hw _ (List.mem_of_getElem? (i := 14) rfl))) (g := (mkF m 1 #[.val (.int p0)] [(.int p0)])) rfl (hb hby d3_1) _ ?_
    exact kt
  refine own_go hgo101 ?_
  by_cases hc3_1 : p0 < (55296 : Int32)
  · have hgo102 : ∀ t, Steps p.tables e below (s₁.setTop (mkF m 7 #[.val (.int p0)] [(.int (0 : Int32))])) t → Steps p.tables e below (s₁.setTop (mkF m 3 #[.val (.int p0)] [(.int (55296 : Int32)), (.int p0)])) t := by
      intro t kt
      show Steps p.tables e below (s₁.setTop (mkF m 3 #[.val (.int p0)] [(.int (55296 : Int32)), (.int p0)])) _
      refine XS.icmpNo X0.here hx rfl (hb hby d3_3) rfl (tlt hc3_1).2.1 ?_
      show Steps p.tables e below (s₁.setTop (mkF m 6 #[.val (.int p0)] [])) _
      refine XS.iconst X0.here hx rfl (hb hby d3_6) ?_
      exact kt
    refine own_go hgo102 ?_
    exact own_retI X0 hx Bd.returns Bd.notSynchronized (hb hby d3_7) (by decide) (by decide) (by rw [e0]; exact ⟨(by rw [own_r3, if_pos hc3_1]), N0, rfl⟩)
  · have hgo103 : ∀ t, Steps p.tables e below (s₁.setTop (mkF m 11 #[.val (.int p0)] [(.int (57344 : Int32)), (.int p0)])) t → Steps p.tables e below (s₁.setTop (mkF m 3 #[.val (.int p0)] [(.int (55296 : Int32)), (.int p0)])) t := by
      intro t kt
      show Steps p.tables e below (s₁.setTop (mkF m 3 #[.val (.int p0)] [(.int (55296 : Int32)), (.int p0)])) _
      refine XS.icmpYes X0.here hx rfl (pc0 := 3) (pc' := 8) rfl (hb hby d3_3) rfl (flt hc3_1).2.1 (by decide) (by decide) ?_
      show Steps p.tables e below (s₁.setTop (mkF m 8 #[.val (.int p0)] [])) _
      refine XS.iloadN X0.here hx rfl (hb hby d3_8) rfl ?_
      show Steps p.tables e below (s₁.setTop (mkF m 9 #[.val (.int p0)] [(.int p0)])) _
      refine X0.ldcInt hx hown (mvT hZ (hw _ (List.mem_of_getElem? (i := 18) rfl))) (g := (mkF m 9 #[.val (.int p0)] [(.int p0)])) rfl (hb hby d3_9) _ ?_
      exact kt
    refine own_go hgo103 ?_
    by_cases hc11_2 : p0 < (57344 : Int32)
    · have hgo104 : ∀ t, Steps p.tables e below (s₁.setTop (mkF m 15 #[.val (.int p0)] [(.int (2 : Int32))])) t → Steps p.tables e below (s₁.setTop (mkF m 11 #[.val (.int p0)] [(.int (57344 : Int32)), (.int p0)])) t := by
        intro t kt
        show Steps p.tables e below (s₁.setTop (mkF m 11 #[.val (.int p0)] [(.int (57344 : Int32)), (.int p0)])) _
        refine XS.icmpNo X0.here hx rfl (hb hby d3_11) rfl (tlt hc11_2).2.1 ?_
        show Steps p.tables e below (s₁.setTop (mkF m 14 #[.val (.int p0)] [])) _
        refine XS.iconst X0.here hx rfl (hb hby d3_14) ?_
        exact kt
      refine own_go hgo104 ?_
      exact own_retI X0 hx Bd.returns Bd.notSynchronized (hb hby d3_15) (by decide) (by decide) (by rw [e0]; exact ⟨(by rw [own_r3, if_neg hc3_1, if_pos hc11_2]), N0, rfl⟩)
    · have hgo105 : ∀ t, Steps p.tables e below (s₁.setTop (mkF m 17 #[.val (.int p0)] [(.int (1 : Int32))])) t → Steps p.tables e below (s₁.setTop (mkF m 11 #[.val (.int p0)] [(.int (57344 : Int32)), (.int p0)])) t := by
        intro t kt
        show Steps p.tables e below (s₁.setTop (mkF m 11 #[.val (.int p0)] [(.int (57344 : Int32)), (.int p0)])) _
        refine XS.icmpYes X0.here hx rfl (pc0 := 11) (pc' := 16) rfl (hb hby d3_11) rfl (flt hc11_2).2.1 (by decide) (by decide) ?_
        show Steps p.tables e below (s₁.setTop (mkF m 16 #[.val (.int p0)] [])) _
        refine XS.iconst X0.here hx rfl (hb hby d3_16) ?_
        exact kt
      refine own_go hgo105 ?_
      exact own_retI X0 hx Bd.returns Bd.notSynchronized (hb hby d3_17) (by decide) (by decide) (by rw [e0]; exact ⟨(by rw [own_r3, if_neg hc3_1, if_neg hc11_2]), N0, rfl⟩)
theorem pd2 : parseMethodDescriptor "(C)I" = some ⟨[.char], some .int⟩ := by decide +kernel
theorem d2_0 : decode method_3_code 0 = .ok (.iload_n 0, 1) := by decide +kernel
theorem d2_1 : decode method_3_code 1 = .ok (.invokestatic 9, 3) := by decide +kernel
theorem d2_4 : decode method_3_code 4 = .ok (.istore_n 1, 1) := by decide +kernel
theorem d2_5 : decode method_3_code 5 = .ok (.iload_n 1, 1) := by decide +kernel
theorem d2_6 : decode method_3_code 6 = .ok (.ifCond .ne 5, 3) := by decide +kernel
theorem d2_9 : decode method_3_code 9 = .ok (.iload_n 0, 1) := by decide +kernel
theorem d2_10 : decode method_3_code 10 = .ok (.ireturn, 1) := by decide +kernel
theorem d2_11 : decode method_3_code 11 = .ok (.iload_n 1, 1) := by decide +kernel
theorem d2_12 : decode method_3_code 12 = .ok (.iconst 1, 1) := by decide +kernel
theorem d2_13 : decode method_3_code 13 = .ok (.if_icmp .ne 11, 3) := by decide +kernel
theorem d2_16 : decode method_3_code 16 = .ok (.ldc 7, 2) := by decide +kernel
theorem d2_18 : decode method_3_code 18 = .ok (.iload_n 0, 1) := by decide +kernel
theorem d2_19 : decode method_3_code 19 = .ok (.ldc 8, 2) := by decide +kernel
theorem d2_21 : decode method_3_code 21 = .ok (.isub, 1) := by decide +kernel
theorem d2_22 : decode method_3_code 22 = .ok (.iadd, 1) := by decide +kernel
theorem d2_23 : decode method_3_code 23 = .ok (.ireturn, 1) := by decide +kernel
theorem d2_24 : decode method_3_code 24 = .ok (.ldc 15, 2) := by decide +kernel
theorem d2_26 : decode method_3_code 26 = .ok (.iload_n 0, 1) := by decide +kernel
theorem d2_27 : decode method_3_code 27 = .ok (.ldc 7, 2) := by decide +kernel
theorem d2_29 : decode method_3_code 29 = .ok (.isub, 1) := by decide +kernel
theorem d2_30 : decode method_3_code 30 = .ok (.iadd, 1) := by decide +kernel
theorem d2_31 : decode method_3_code 31 = .ok (.ireturn, 1) := by decide +kernel
theorem ef_2 (m : MethodId) (p0 : Int32) : entryFrame m #[(.int p0)] 2 = mkF m 0 #[.val (.int p0), .unset] [] := by (first | (simp [entryFrame, mkF, argsToLocals, Value.category]; done) | rfl)
def own_r2 (p0 : Int32) : Int32 := (if (own_r3 p0) = (0 : Int32) then p0 else (if (own_r3 p0) = (1 : Int32) then ((55296 : Int32) + (p0 - (57344 : Int32))) else ((63488 : Int32) + (p0 - (55296 : Int32)))))
def Q2 (Z : State) (p0 : Int32) (h0 : Heap) (n0 : Nat) (v : Option Value) (h : Heap) (L : List Loc) : Prop := v = some (.int (own_r2 p0)) ∧ Fr n0 L ∧ h = h0
set_option maxRecDepth 65536 in
set_option maxHeartbeats 40000000 in
theorem rm2 (l : Launch) (Z : State) (a0 : Array Value) (hw : ∀ d ∈ tables_1, d.before a0 Z = true) (ws : List Jvm.Cond) (p0 : Int32) (h0 : Heap) (n0 : Nat) (Z0 : n0 ≤ h0.size) :
    MetFree l (⟨"inducere/Utf8OrderRankPinLaw", "position", "(C)I"⟩ : MethodName) (head1 (Jvm.Cond.code (⟨"inducere/Utf8OrderRankPinLaw", "position", "(C)I"⟩ : MethodName) method_3_code 2 (some .int) :: ws) ({ frames := 1, cells := 0, slots := 0, locals := 12 } : Room)) (fun a U => a = #[(.int p0)] ∧ Z.Warmed39 U.vm ∧ U.heap = h0) (fun _ _ _ _ _ => True) (fun _ U o U' => ∃ v L, o = .returned v ∧ Q2 Z p0 h0 n0 v U'.heap L ∧ FrameEnd U o U' L ({ frames := 1, cells := 0, slots := 0, locals := 12 } : Room).cells ({ frames := 1, cells := 0, slots := 0, locals := 12 } : Room).slots) := by
  refine MetFree.of_bodySF (plainFor_of_name pn1) hisR ?_
  intro p e s m args below meth c s₁ Bd hml0 hP hK
  obtain ⟨rfl, hZ, hh⟩ := hP
  have hx := Bd.exec
  have hby := Bd.bytes
  have hml : c.maxLocals = 2 := hml0
  have hown : s.vm.findClass "inducere/Utf8OrderRankPinLaw" = some m.cls := findClass_of_methodNamed Bd.named
  have hnm := (name_of_methodNamed Bd.named Bd.method).1
  have X0 : Stand p l e ({ frames := 1, cells := 0, slots := 0, locals := 12 } : Room) s m #[(.int p0)] below meth c s₁ [] 0 0 := Stand.of_body Bd
  have e0 : s₁.heap = h0 := by rw [← hh, Bd.state]; rfl
  have N0 := Fr.nil n0
  have K0 : Keep h0 h0 [] := Keep.refl h0 _
  show own_Go p e below s (Q2 Z p0 h0 n0) ({ frames := 1, cells := 0, slots := 0, locals := 12 } : Room).cells ({ frames := 1, cells := 0, slots := 0, locals := 12 } : Room).slots (s₁.setTop (entryFrame m #[(.int p0)] 2))
  refine own_go (fun t k => castTop (ef_2 m p0) k) ?_
  obtain ⟨_, _, ⟨T101, L101, k101, n101⟩, -, X101, ⟨Lc101, hQ101, l101, y101, z101⟩, st101⟩ := Jvm.LawKit.callS X0 hx (y := (⟨"inducere/Utf8OrderRankPinLaw", "group", "(C)I"⟩ : MethodName)) hown (mvT hZ (hw _ (List.mem_of_getElem? (i := 11) rfl))) (mvT hZ (hw _ (List.mem_of_getElem? (i := 12) rfl))) (mvT hZ (hw _ (List.mem_of_getElem? (i := 9) rfl))) (mvT hZ (hw _ (List.mem_of_getElem? (i := 13) rfl))) (by decide) (backOf (W := 0) (rm3 l Z a0 hw [] p0 h0 n0 Z0 ) hZ (hw _ (List.mem_of_getElem? (i := 13) rfl)) (hw _ (List.mem_of_getElem? (i := 9) rfl)) (by decide) (by decide)) (g := (mkF m 1 #[.val (.int p0), .unset] [(.int p0)])) rfl (by rw [hml]; rfl) (argsL := [(.int p0)]) (rest := []) (lenOf pd2 rfl) rfl (by show 2 * 0 + _ ≤ _; exact Nat.le_of_eq rfl) (hb hby d2_1) (fun _ _ => ⟨rfl, e0, (by decide : 0 + 0 ≤ _), (by decide : 0 + 0 ≤ _)⟩)
  dsimp only [Pt.U, Pt.locs, Pt.cells, Pt.slots] at X101 l101 y101 z101 st101 hQ101
  subst l101 y101 z101
  obtain ⟨rfl, N101q, e101⟩ := hQ101
  have N101 := Fr.app N0 N101q
  obtain ⟨v1, hv1⟩ : ∃ z : Int32, z = (own_r3 p0) := ⟨_, rfl⟩
  have hgo102 : ∀ t, Steps p.tables e below (T101.setTop (mkF m 6 #[.val (.int p0), .val (.int v1)] [(.int v1)])) t → Steps p.tables e below (s₁.setTop (mkF m 0 #[.val (.int p0), .unset] [])) t := by
    intro t kt
    show Steps p.tables e below (s₁.setTop (mkF m 0 #[.val (.int p0), .unset] [])) _
    refine XS.iloadN X0.here hx rfl (hb hby d2_0) rfl ?_
    show Steps p.tables e below (s₁.setTop (mkF m 1 #[.val (.int p0), .unset] [(.int p0)])) _
    refine st101 _ ?_
    show Steps p.tables e below (T101.setTop (mkF m 4 #[.val (.int p0), .unset] [(.int (own_r3 p0))])) _
    rw [← hv1]
    show Steps p.tables e below (T101.setTop (mkF m 4 #[.val (.int p0), .unset] [(.int v1)])) _
    refine XS.istoreN X101.here hx rfl (hb hby d2_4) rfl (l' := #[.val (.int p0), .val (.int v1)]) rfl ?_
    show Steps p.tables e below (T101.setTop (mkF m 5 #[.val (.int p0), .val (.int v1)] [])) _
    refine XS.iloadN X101.here hx rfl (hb hby d2_5) rfl ?_
    exact kt
  refine own_go hgo102 ?_
  by_cases hc6_2 : v1 = (0 : Int32)
  · have hgo103 : ∀ t, Steps p.tables e below (T101.setTop (mkF m 10 #[.val (.int p0), .val (.int v1)] [(.int p0)])) t → Steps p.tables e below (T101.setTop (mkF m 6 #[.val (.int p0), .val (.int v1)] [(.int v1)])) t := by
      intro t kt
      show Steps p.tables e below (T101.setTop (mkF m 6 #[.val (.int p0), .val (.int v1)] [(.int v1)])) _
      refine XS.ifNo X101.here hx rfl (hb hby d2_6) rfl ((if0 _ _).trans (teq hc6_2).2) ?_
      show Steps p.tables e below (T101.setTop (mkF m 9 #[.val (.int p0), .val (.int v1)] [])) _
      refine XS.iloadN X101.here hx rfl (hb hby d2_9) rfl ?_
      exact kt
    refine own_go hgo103 ?_
    exact own_retI X101 hx Bd.returns Bd.notSynchronized (hb hby d2_10) (by decide) (by decide) (by rw [e101]; exact ⟨(by subst hv1; rw [own_r2, if_pos hc6_2]), N101, rfl⟩)
  · have hgo104 : ∀ t, Steps p.tables e below (T101.setTop (mkF m 13 #[.val (.int p0), .val (.int v1)] [(.int (1 : Int32)), (.int v1)])) t → Steps p.tables e below (T101.setTop (mkF m 6 #[.val (.int p0), .val (.int v1)] [(.int v1)])) t := by
      intro t kt
      show Steps p.tables e below (T101.setTop (mkF m 6 #[.val (.int p0), .val (.int v1)] [(.int v1)])) _
      refine XS.ifYes X101.here hx rfl (pc0 := 6) (pc' := 11) rfl (hb hby d2_6) rfl ((if0 _ _).trans (feq hc6_2).2) (by decide) (by decide) ?_
      show Steps p.tables e below (T101.setTop (mkF m 11 #[.val (.int p0), .val (.int v1)] [])) _
      refine XS.iloadN X101.here hx rfl (hb hby d2_11) rfl ?_
      show Steps p.tables e below (T101.setTop (mkF m 12 #[.val (.int p0), .val (.int v1)] [(.int v1)])) _
      refine XS.iconst X101.here hx rfl (hb hby d2_12) ?_
      exact kt
    refine own_go hgo104 ?_
    by_cases hc13_3 : v1 = (1 : Int32)
    · obtain ⟨v4, hv4⟩ : ∃ z : Int32, z = ((55296 : Int32) + (p0 - (57344 : Int32))) := ⟨_, rfl⟩
      have hgo105 : ∀ t, Steps p.tables e below (T101.setTop (mkF m 23 #[.val (.int p0), .val (.int v1)] [(.int v4)])) t → Steps p.tables e below (T101.setTop (mkF m 13 #[.val (.int p0), .val (.int v1)] [(.int (1 : Int32)), (.int v1)])) t := by
        intro t kt
        show Steps p.tables e below (T101.setTop (mkF m 13 #[.val (.int p0), .val (.int v1)] [(.int (1 : Int32)), (.int v1)])) _
        refine XS.icmpNo X101.here hx rfl (hb hby d2_13) rfl (teq hc13_3).2 ?_
        show Steps p.tables e below (T101.setTop (mkF m 16 #[.val (.int p0), .val (.int v1)] [])) _
        refine X101.ldcInt hx hown (mvT hZ (hw _ (List.mem_of_getElem? (i := 14) rfl))) (g := (mkF m 16 #[.val (.int p0), .val (.int v1)] [])) rfl (hb hby d2_16) _ ?_
        show Steps p.tables e below (T101.setTop (mkF m 18 #[.val (.int p0), .val (.int v1)] [(.int (55296 : Int32))])) _
        refine XS.iloadN X101.here hx rfl (hb hby d2_18) rfl ?_
        show Steps p.tables e below (T101.setTop (mkF m 19 #[.val (.int p0), .val (.int v1)] [(.int p0), (.int (55296 : Int32))])) _
        refine X101.ldcInt hx hown (mvT hZ (hw _ (List.mem_of_getElem? (i := 18) rfl))) (g := (mkF m 19 #[.val (.int p0), .val (.int v1)] [(.int p0), (.int (55296 : Int32))])) rfl (hb hby d2_19) _ ?_
        show Steps p.tables e below (T101.setTop (mkF m 21 #[.val (.int p0), .val (.int v1)] [(.int (57344 : Int32)), (.int p0), (.int (55296 : Int32))])) _
        refine XS.isub X101.here hx rfl (hb hby d2_21) rfl ?_
        show Steps p.tables e below (T101.setTop (mkF m 22 #[.val (.int p0), .val (.int v1)] [(.int (p0 - (57344 : Int32))), (.int (55296 : Int32))])) _
        refine XS.iadd X101.here hx rfl (hb hby d2_22) rfl ?_
        rw [← hv4]
        exact kt
      refine own_go hgo105 ?_
      exact own_retI X101 hx Bd.returns Bd.notSynchronized (hb hby d2_23) (by decide) (by decide) (by rw [e101]; exact ⟨(by subst hv4 hv1; rw [own_r2, if_neg hc6_2, if_pos hc13_3]), N101, rfl⟩)
    · obtain ⟨v5, hv5⟩ : ∃ z : Int32, z = ((63488 : Int32) + (p0 - (55296 : Int32))) := ⟨_, rfl⟩
      have hgo106 : ∀ t, Steps p.tables e below (T101.setTop (mkF m 31 #[.val (.int p0), .val (.int v1)] [(.int v5)])) t → Steps p.tables e below (T101.setTop (mkF m 13 #[.val (.int p0), .val (.int v1)] [(.int (1 : Int32)), (.int v1)])) t := by
        intro t kt
        show Steps p.tables e below (T101.setTop (mkF m 13 #[.val (.int p0), .val (.int v1)] [(.int (1 : Int32)), (.int v1)])) _
        refine XS.icmpYes X101.here hx rfl (pc0 := 13) (pc' := 24) rfl (hb hby d2_13) rfl (feq hc13_3).2 (by decide) (by decide) ?_
        show Steps p.tables e below (T101.setTop (mkF m 24 #[.val (.int p0), .val (.int v1)] [])) _
        refine X101.ldcInt hx hown (mvT hZ (hw _ (List.mem_of_getElem? (i := 19) rfl))) (g := (mkF m 24 #[.val (.int p0), .val (.int v1)] [])) rfl (hb hby d2_24) _ ?_
        show Steps p.tables e below (T101.setTop (mkF m 26 #[.val (.int p0), .val (.int v1)] [(.int (63488 : Int32))])) _
        refine XS.iloadN X101.here hx rfl (hb hby d2_26) rfl ?_
        show Steps p.tables e below (T101.setTop (mkF m 27 #[.val (.int p0), .val (.int v1)] [(.int p0), (.int (63488 : Int32))])) _
        refine X101.ldcInt hx hown (mvT hZ (hw _ (List.mem_of_getElem? (i := 14) rfl))) (g := (mkF m 27 #[.val (.int p0), .val (.int v1)] [(.int p0), (.int (63488 : Int32))])) rfl (hb hby d2_27) _ ?_
        show Steps p.tables e below (T101.setTop (mkF m 29 #[.val (.int p0), .val (.int v1)] [(.int (55296 : Int32)), (.int p0), (.int (63488 : Int32))])) _
        refine XS.isub X101.here hx rfl (hb hby d2_29) rfl ?_
        show Steps p.tables e below (T101.setTop (mkF m 30 #[.val (.int p0), .val (.int v1)] [(.int (p0 - (55296 : Int32))), (.int (63488 : Int32))])) _
        refine XS.iadd X101.here hx rfl (hb hby d2_30) rfl ?_
        rw [← hv5]
        exact kt
      refine own_go hgo106 ?_
      exact own_retI X101 hx Bd.returns Bd.notSynchronized (hb hby d2_31) (by decide) (by decide) (by rw [e101]; exact ⟨(by subst hv5 hv1; rw [own_r2, if_neg hc6_2, if_neg hc13_3]), N101, rfl⟩)
theorem d4_0 : decode method_4_code 0 = .ok (.iload_n 0, 1) := by decide +kernel
theorem d4_1 : decode method_4_code 1 = .ok (.invokestatic 9, 3) := by decide +kernel
theorem d4_4 : decode method_4_code 4 = .ok (.istore_n 2, 1) := by decide +kernel
theorem d4_5 : decode method_4_code 5 = .ok (.iload_n 1, 1) := by decide +kernel
theorem d4_6 : decode method_4_code 6 = .ok (.invokestatic 9, 3) := by decide +kernel
theorem d4_9 : decode method_4_code 9 = .ok (.istore_n 3, 1) := by decide +kernel
theorem d4_10 : decode method_4_code 10 = .ok (.iload_n 2, 1) := by decide +kernel
theorem d4_11 : decode method_4_code 11 = .ok (.iload_n 3, 1) := by decide +kernel
theorem d4_12 : decode method_4_code 12 = .ok (.if_icmp .eq 14, 3) := by decide +kernel
theorem d4_15 : decode method_4_code 15 = .ok (.iload_n 2, 1) := by decide +kernel
theorem d4_16 : decode method_4_code 16 = .ok (.iload_n 3, 1) := by decide +kernel
theorem d4_17 : decode method_4_code 17 = .ok (.if_icmp .ge 7, 3) := by decide +kernel
theorem d4_20 : decode method_4_code 20 = .ok (.iconst 1, 1) := by decide +kernel
theorem d4_21 : decode method_4_code 21 = .ok (.goto 4, 3) := by decide +kernel
theorem d4_24 : decode method_4_code 24 = .ok (.iconst 0, 1) := by decide +kernel
theorem d4_25 : decode method_4_code 25 = .ok (.ireturn, 1) := by decide +kernel
theorem d4_26 : decode method_4_code 26 = .ok (.iload_n 0, 1) := by decide +kernel
theorem d4_27 : decode method_4_code 27 = .ok (.iload_n 1, 1) := by decide +kernel
theorem d4_28 : decode method_4_code 28 = .ok (.if_icmp .ge 7, 3) := by decide +kernel
theorem d4_31 : decode method_4_code 31 = .ok (.iconst 1, 1) := by decide +kernel
theorem d4_32 : decode method_4_code 32 = .ok (.goto 4, 3) := by decide +kernel
theorem d4_35 : decode method_4_code 35 = .ok (.iconst 0, 1) := by decide +kernel
theorem d4_36 : decode method_4_code 36 = .ok (.ireturn, 1) := by decide +kernel
theorem ef_4 (m : MethodId) (p0 : Int32) (p1 : Int32) : entryFrame m #[(.int p0), (.int p1)] 4 = mkF m 0 #[.val (.int p0), .val (.int p1), .unset, .unset] [] := by (first | (simp [entryFrame, mkF, argsToLocals, Value.category]; done) | rfl)
def own_r4 (p0 : Int32) (p1 : Int32) : Int32 := (if (own_r3 p0) = (own_r3 p1) then (if p0 < p1 then (1 : Int32) else (0 : Int32)) else (if (own_r3 p0) < (own_r3 p1) then (1 : Int32) else (0 : Int32)))
theorem own_r4_b (p0 : Int32) (p1 : Int32) : own_r4 p0 p1 = 0 ∨ own_r4 p0 p1 = 1 := by unfold own_r4; exact (own_ite01 (own_ite01 (Or.inr rfl) (Or.inl rfl)) (own_ite01 (Or.inr rfl) (Or.inl rfl)))
def Q4 (Z : State) (p0 : Int32) (p1 : Int32) (h0 : Heap) (n0 : Nat) (v : Option Value) (h : Heap) (L : List Loc) : Prop := v = some (.int (own_r4 p0 p1)) ∧ Fr n0 L ∧ h = h0
set_option maxRecDepth 65536 in
set_option maxHeartbeats 40000000 in
theorem rm4 (l : Launch) (Z : State) (a0 : Array Value) (hw : ∀ d ∈ tables_1, d.before a0 Z = true) (ws : List Jvm.Cond) (p0 : Int32) (p1 : Int32) (h0 : Heap) (n0 : Nat) (Z0 : n0 ≤ h0.size) :
    MetFree l (⟨"inducere/Utf8OrderRankPinLaw", "before", "(CC)Z"⟩ : MethodName) (head1 (Jvm.Cond.code (⟨"inducere/Utf8OrderRankPinLaw", "before", "(CC)Z"⟩ : MethodName) method_4_code 4 (some .boolean) :: ws) ({ frames := 1, cells := 0, slots := 0, locals := 12 } : Room)) (fun a U => a = #[(.int p0), (.int p1)] ∧ Z.Warmed39 U.vm ∧ U.heap = h0) (fun _ _ _ _ _ => True) (fun _ U o U' => ∃ v L, o = .returned v ∧ Q4 Z p0 p1 h0 n0 v U'.heap L ∧ FrameEnd U o U' L ({ frames := 1, cells := 0, slots := 0, locals := 12 } : Room).cells ({ frames := 1, cells := 0, slots := 0, locals := 12 } : Room).slots) := by
  refine MetFree.of_bodySF (plainFor_of_name pn1) hisR ?_
  intro p e s m args below meth c s₁ Bd hml0 hP hK
  obtain ⟨rfl, hZ, hh⟩ := hP
  have hx := Bd.exec
  have hby := Bd.bytes
  have hml : c.maxLocals = 4 := hml0
  have hown : s.vm.findClass "inducere/Utf8OrderRankPinLaw" = some m.cls := findClass_of_methodNamed Bd.named
  have hnm := (name_of_methodNamed Bd.named Bd.method).1
  have X0 : Stand p l e ({ frames := 1, cells := 0, slots := 0, locals := 12 } : Room) s m #[(.int p0), (.int p1)] below meth c s₁ [] 0 0 := Stand.of_body Bd
  have e0 : s₁.heap = h0 := by rw [← hh, Bd.state]; rfl
  have N0 := Fr.nil n0
  have K0 : Keep h0 h0 [] := Keep.refl h0 _
  show own_Go p e below s (Q4 Z p0 p1 h0 n0) ({ frames := 1, cells := 0, slots := 0, locals := 12 } : Room).cells ({ frames := 1, cells := 0, slots := 0, locals := 12 } : Room).slots (s₁.setTop (entryFrame m #[(.int p0), (.int p1)] 4))
  refine own_go (fun t k => castTop (ef_4 m p0 p1) k) ?_
  obtain ⟨_, _, ⟨T101, L101, k101, n101⟩, -, X101, ⟨Lc101, hQ101, l101, y101, z101⟩, st101⟩ := Jvm.LawKit.callS X0 hx (y := (⟨"inducere/Utf8OrderRankPinLaw", "group", "(C)I"⟩ : MethodName)) hown (mvT hZ (hw _ (List.mem_of_getElem? (i := 11) rfl))) (mvT hZ (hw _ (List.mem_of_getElem? (i := 12) rfl))) (mvT hZ (hw _ (List.mem_of_getElem? (i := 9) rfl))) (mvT hZ (hw _ (List.mem_of_getElem? (i := 13) rfl))) (by decide) (backOf (W := 0) (rm3 l Z a0 hw [] p0 h0 n0 Z0 ) hZ (hw _ (List.mem_of_getElem? (i := 13) rfl)) (hw _ (List.mem_of_getElem? (i := 9) rfl)) (by decide) (by decide)) (g := (mkF m 1 #[.val (.int p0), .val (.int p1), .unset, .unset] [(.int p0)])) rfl (by rw [hml]; rfl) (argsL := [(.int p0)]) (rest := []) (lenOf pd2 rfl) rfl (by show 2 * 0 + _ ≤ _; exact Nat.le_of_eq rfl) (hb hby d4_1) (fun _ _ => ⟨rfl, e0, (by decide : 0 + 0 ≤ _), (by decide : 0 + 0 ≤ _)⟩)
  dsimp only [Pt.U, Pt.locs, Pt.cells, Pt.slots] at X101 l101 y101 z101 st101 hQ101
  subst l101 y101 z101
  obtain ⟨rfl, N101q, e101⟩ := hQ101
  have N101 := Fr.app N0 N101q
  obtain ⟨v1, hv1⟩ : ∃ z : Int32, z = (own_r3 p0) := ⟨_, rfl⟩
  obtain ⟨_, _, ⟨T102, L102, k102, n102⟩, -, X102, ⟨Lc102, hQ102, l102, y102, z102⟩, st102⟩ := Jvm.LawKit.callS X101 hx (y := (⟨"inducere/Utf8OrderRankPinLaw", "group", "(C)I"⟩ : MethodName)) hown (mvT hZ (hw _ (List.mem_of_getElem? (i := 11) rfl))) (mvT hZ (hw _ (List.mem_of_getElem? (i := 12) rfl))) (mvT hZ (hw _ (List.mem_of_getElem? (i := 9) rfl))) (mvT hZ (hw _ (List.mem_of_getElem? (i := 13) rfl))) (by decide) (backOf (W := 0) (rm3 l Z a0 hw [] p1 h0 n0 Z0 ) hZ (hw _ (List.mem_of_getElem? (i := 13) rfl)) (hw _ (List.mem_of_getElem? (i := 9) rfl)) (by decide) (by decide)) (g := (mkF m 6 #[.val (.int p0), .val (.int p1), .val (.int v1), .unset] [(.int p1)])) rfl (by rw [hml]; rfl) (argsL := [(.int p1)]) (rest := []) (lenOf pd2 rfl) rfl (by show 2 * 0 + _ ≤ _; exact Nat.le_of_eq rfl) (hb hby d4_6) (fun _ _ => ⟨rfl, e101, (by decide : 0 + 0 ≤ _), (by decide : 0 + 0 ≤ _)⟩)
  dsimp only [Pt.U, Pt.locs, Pt.cells, Pt.slots] at X102 l102 y102 z102 st102 hQ102
  subst l102 y102 z102
  obtain ⟨rfl, N102q, e102⟩ := hQ102
  have N102 := Fr.app N101 N102q
  obtain ⟨v2, hv2⟩ : ∃ z : Int32, z = (own_r3 p1) := ⟨_, rfl⟩
  have hgo103 : ∀ t, Steps p.tables e below (T102.setTop (mkF m 12 #[.val (.int p0), .val (.int p1), .val (.int v1), .val (.int v2)] [(.int v2), (.int v1)])) t → Steps p.tables e below (s₁.setTop (mkF m 0 #[.val (.int p0), .val (.int p1), .unset, .unset] [])) t := by
    intro t kt
    show Steps p.tables e below (s₁.setTop (mkF m 0 #[.val (.int p0), .val (.int p1), .unset, .unset] [])) _
    refine XS.iloadN X0.here hx rfl (hb hby d4_0) rfl ?_
    show Steps p.tables e below (s₁.setTop (mkF m 1 #[.val (.int p0), .val (.int p1), .unset, .unset] [(.int p0)])) _
    refine st101 _ ?_
    show Steps p.tables e below (T101.setTop (mkF m 4 #[.val (.int p0), .val (.int p1), .unset, .unset] [(.int (own_r3 p0))])) _
    rw [← hv1]
    show Steps p.tables e below (T101.setTop (mkF m 4 #[.val (.int p0), .val (.int p1), .unset, .unset] [(.int v1)])) _
    refine XS.istoreN X101.here hx rfl (hb hby d4_4) rfl (l' := #[.val (.int p0), .val (.int p1), .val (.int v1), .unset]) rfl ?_
    show Steps p.tables e below (T101.setTop (mkF m 5 #[.val (.int p0), .val (.int p1), .val (.int v1), .unset] [])) _
    refine XS.iloadN X101.here hx rfl (hb hby d4_5) rfl ?_
    show Steps p.tables e below (T101.setTop (mkF m 6 #[.val (.int p0), .val (.int p1), .val (.int v1), .unset] [(.int p1)])) _
    refine st102 _ ?_
    show Steps p.tables e below (T102.setTop (mkF m 9 #[.val (.int p0), .val (.int p1), .val (.int v1), .unset] [(.int (own_r3 p1))])) _
    rw [← hv2]
    show Steps p.tables e below (T102.setTop (mkF m 9 #[.val (.int p0), .val (.int p1), .val (.int v1), .unset] [(.int v2)])) _
    refine XS.istoreN X102.here hx rfl (hb hby d4_9) rfl (l' := #[.val (.int p0), .val (.int p1), .val (.int v1), .val (.int v2)]) rfl ?_
    show Steps p.tables e below (T102.setTop (mkF m 10 #[.val (.int p0), .val (.int p1), .val (.int v1), .val (.int v2)] [])) _
    refine XS.iloadN X102.here hx rfl (hb hby d4_10) rfl ?_
    show Steps p.tables e below (T102.setTop (mkF m 11 #[.val (.int p0), .val (.int p1), .val (.int v1), .val (.int v2)] [(.int v1)])) _
    refine XS.iloadN X102.here hx rfl (hb hby d4_11) rfl ?_
    exact kt
  refine own_go hgo103 ?_
  by_cases hc12_3 : v1 = v2
  · obtain ⟨v5, hv5⟩ : ∃ z : Int32, z = (if p0 < p1 then (1 : Int32) else (0 : Int32)) := ⟨_, rfl⟩
    obtain ⟨T106, lc106, X106, N106, e106, st106⟩ := own_mrg (n0 := n0) (h := h0) (g := (mkF m 28 #[.val (.int p0), .val (.int p1), .val (.int v1), .val (.int v2)] [(.int p1), (.int p0)])) (g' := (mkF m 36 #[.val (.int p0), .val (.int p1), .val (.int v1), .val (.int v2)] [(.int v5)])) X102 (by
      by_cases hc28_4 : p0 < p1
      · have hgo104 : ∀ t, Steps p.tables e below (T102.setTop (mkF m 36 #[.val (.int p0), .val (.int p1), .val (.int v1), .val (.int v2)] [(.int (1 : Int32))])) t → Steps p.tables e below (T102.setTop (mkF m 28 #[.val (.int p0), .val (.int p1), .val (.int v1), .val (.int v2)] [(.int p1), (.int p0)])) t := by
          intro t kt
          show Steps p.tables e below (T102.setTop (mkF m 28 #[.val (.int p0), .val (.int p1), .val (.int v1), .val (.int v2)] [(.int p1), (.int p0)])) _
          refine XS.icmpNo X102.here hx rfl (hb hby d4_28) rfl (tlt hc28_4).2.1 ?_
          show Steps p.tables e below (T102.setTop (mkF m 31 #[.val (.int p0), .val (.int p1), .val (.int v1), .val (.int v2)] [])) _
          refine XS.iconst X102.here hx rfl (hb hby d4_31) ?_
          show Steps p.tables e below (T102.setTop (mkF m 32 #[.val (.int p0), .val (.int p1), .val (.int v1), .val (.int v2)] [(.int (1 : Int32))])) _
          refine XS.goto X102.here hx rfl (pc0 := 32) (pc' := 36) rfl (hb hby d4_32) (by decide) (by decide) ?_
          exact kt
        refine own_arm hgo104 ?_
        exact own_armEnd X102 N102 e102 (by rw [hv5.trans (if_pos hc28_4)])
      · have hgo105 : ∀ t, Steps p.tables e below (T102.setTop (mkF m 36 #[.val (.int p0), .val (.int p1), .val (.int v1), .val (.int v2)] [(.int (0 : Int32))])) t → Steps p.tables e below (T102.setTop (mkF m 28 #[.val (.int p0), .val (.int p1), .val (.int v1), .val (.int v2)] [(.int p1), (.int p0)])) t := by
          intro t kt
          show Steps p.tables e below (T102.setTop (mkF m 28 #[.val (.int p0), .val (.int p1), .val (.int v1), .val (.int v2)] [(.int p1), (.int p0)])) _
          refine XS.icmpYes X102.here hx rfl (pc0 := 28) (pc' := 35) rfl (hb hby d4_28) rfl (flt hc28_4).2.1 (by decide) (by decide) ?_
          show Steps p.tables e below (T102.setTop (mkF m 35 #[.val (.int p0), .val (.int p1), .val (.int v1), .val (.int v2)] [])) _
          refine XS.iconst X102.here hx rfl (hb hby d4_35) ?_
          exact kt
        refine own_arm hgo105 ?_
        exact own_armEnd X102 N102 e102 (by rw [hv5.trans (if_neg hc28_4)]))
    have hgo107 : ∀ t, Steps p.tables e below (T106.setTop (mkF m 36 #[.val (.int p0), .val (.int p1), .val (.int v1), .val (.int v2)] [(.int v5)])) t → Steps p.tables e below (T102.setTop (mkF m 12 #[.val (.int p0), .val (.int p1), .val (.int v1), .val (.int v2)] [(.int v2), (.int v1)])) t := by
      intro t kt
      show Steps p.tables e below (T102.setTop (mkF m 12 #[.val (.int p0), .val (.int p1), .val (.int v1), .val (.int v2)] [(.int v2), (.int v1)])) _
      refine XS.icmpYes X102.here hx rfl (pc0 := 12) (pc' := 26) rfl (hb hby d4_12) rfl (teq hc12_3).1 (by decide) (by decide) ?_
      show Steps p.tables e below (T102.setTop (mkF m 26 #[.val (.int p0), .val (.int p1), .val (.int v1), .val (.int v2)] [])) _
      refine XS.iloadN X102.here hx rfl (hb hby d4_26) rfl ?_
      show Steps p.tables e below (T102.setTop (mkF m 27 #[.val (.int p0), .val (.int p1), .val (.int v1), .val (.int v2)] [(.int p0)])) _
      refine XS.iloadN X102.here hx rfl (hb hby d4_27) rfl ?_
      show Steps p.tables e below (T102.setTop (mkF m 28 #[.val (.int p0), .val (.int p1), .val (.int v1), .val (.int v2)] [(.int p1), (.int p0)])) _
      refine st106 _ ?_
      exact kt
    refine own_go hgo107 ?_
    exact own_retZ X106 hx Bd.returns Bd.notSynchronized (hb hby d4_36) (by decide) (by decide) (by rw [hv5]; exact (own_ite01 (Or.inr rfl) (Or.inl rfl))) (by rw [e106]; exact ⟨(by subst hv5 hv2 hv1; rw [own_r4, if_pos hc12_3]), N106, rfl⟩)
  · obtain ⟨v7, hv7⟩ : ∃ z : Int32, z = (if v1 < v2 then (1 : Int32) else (0 : Int32)) := ⟨_, rfl⟩
    obtain ⟨T110, lc110, X110, N110, e110, st110⟩ := own_mrg (n0 := n0) (h := h0) (g := (mkF m 17 #[.val (.int p0), .val (.int p1), .val (.int v1), .val (.int v2)] [(.int v2), (.int v1)])) (g' := (mkF m 25 #[.val (.int p0), .val (.int p1), .val (.int v1), .val (.int v2)] [(.int v7)])) X102 (by
      by_cases hc17_6 : v1 < v2
      · have hgo108 : ∀ t, Steps p.tables e below (T102.setTop (mkF m 25 #[.val (.int p0), .val (.int p1), .val (.int v1), .val (.int v2)] [(.int (1 : Int32))])) t → Steps p.tables e below (T102.setTop (mkF m 17 #[.val (.int p0), .val (.int p1), .val (.int v1), .val (.int v2)] [(.int v2), (.int v1)])) t := by
          intro t kt
          show Steps p.tables e below (T102.setTop (mkF m 17 #[.val (.int p0), .val (.int p1), .val (.int v1), .val (.int v2)] [(.int v2), (.int v1)])) _
          refine XS.icmpNo X102.here hx rfl (hb hby d4_17) rfl (tlt hc17_6).2.1 ?_
          show Steps p.tables e below (T102.setTop (mkF m 20 #[.val (.int p0), .val (.int p1), .val (.int v1), .val (.int v2)] [])) _
          refine XS.iconst X102.here hx rfl (hb hby d4_20) ?_
          show Steps p.tables e below (T102.setTop (mkF m 21 #[.val (.int p0), .val (.int p1), .val (.int v1), .val (.int v2)] [(.int (1 : Int32))])) _
          refine XS.goto X102.here hx rfl (pc0 := 21) (pc' := 25) rfl (hb hby d4_21) (by decide) (by decide) ?_
          exact kt
        refine own_arm hgo108 ?_
        exact own_armEnd X102 N102 e102 (by rw [hv7.trans (if_pos hc17_6)])
      · have hgo109 : ∀ t, Steps p.tables e below (T102.setTop (mkF m 25 #[.val (.int p0), .val (.int p1), .val (.int v1), .val (.int v2)] [(.int (0 : Int32))])) t → Steps p.tables e below (T102.setTop (mkF m 17 #[.val (.int p0), .val (.int p1), .val (.int v1), .val (.int v2)] [(.int v2), (.int v1)])) t := by
          intro t kt
          show Steps p.tables e below (T102.setTop (mkF m 17 #[.val (.int p0), .val (.int p1), .val (.int v1), .val (.int v2)] [(.int v2), (.int v1)])) _
          refine XS.icmpYes X102.here hx rfl (pc0 := 17) (pc' := 24) rfl (hb hby d4_17) rfl (flt hc17_6).2.1 (by decide) (by decide) ?_
          show Steps p.tables e below (T102.setTop (mkF m 24 #[.val (.int p0), .val (.int p1), .val (.int v1), .val (.int v2)] [])) _
          refine XS.iconst X102.here hx rfl (hb hby d4_24) ?_
          exact kt
        refine own_arm hgo109 ?_
        exact own_armEnd X102 N102 e102 (by rw [hv7.trans (if_neg hc17_6)]))
    have hgo111 : ∀ t, Steps p.tables e below (T110.setTop (mkF m 25 #[.val (.int p0), .val (.int p1), .val (.int v1), .val (.int v2)] [(.int v7)])) t → Steps p.tables e below (T102.setTop (mkF m 12 #[.val (.int p0), .val (.int p1), .val (.int v1), .val (.int v2)] [(.int v2), (.int v1)])) t := by
      intro t kt
      show Steps p.tables e below (T102.setTop (mkF m 12 #[.val (.int p0), .val (.int p1), .val (.int v1), .val (.int v2)] [(.int v2), (.int v1)])) _
      refine XS.icmpNo X102.here hx rfl (hb hby d4_12) rfl (feq hc12_3).1 ?_
      show Steps p.tables e below (T102.setTop (mkF m 15 #[.val (.int p0), .val (.int p1), .val (.int v1), .val (.int v2)] [])) _
      refine XS.iloadN X102.here hx rfl (hb hby d4_15) rfl ?_
      show Steps p.tables e below (T102.setTop (mkF m 16 #[.val (.int p0), .val (.int p1), .val (.int v1), .val (.int v2)] [(.int v1)])) _
      refine XS.iloadN X102.here hx rfl (hb hby d4_16) rfl ?_
      show Steps p.tables e below (T102.setTop (mkF m 17 #[.val (.int p0), .val (.int p1), .val (.int v1), .val (.int v2)] [(.int v2), (.int v1)])) _
      refine st110 _ ?_
      exact kt
    refine own_go hgo111 ?_
    exact own_retZ X110 hx Bd.returns Bd.notSynchronized (hb hby d4_25) (by decide) (by decide) (by rw [hv7]; exact (own_ite01 (Or.inr rfl) (Or.inl rfl))) (by rw [e110]; exact ⟨(by subst hv7 hv2 hv1; rw [own_r4, if_neg hc12_3]), N110, rfl⟩)
theorem own_chr (x : Int32) : 0 ≤ (x.toUInt32.toUInt16.toUInt32.toInt32).toInt ∧ (x.toUInt32.toUInt16.toUInt32.toInt32).toInt ≤ 65535 := by
  have h : (x.toUInt32.toUInt16.toUInt32.toInt32).toInt = (x.toUInt32.toUInt16.toNat : Int) := by
    have h2 := x.toUInt32.toUInt16.toNat_lt
    show (BitVec.toInt _) = _
    rw [BitVec.toInt_eq_toNat_cond]
    show (if 2 * (x.toUInt32.toUInt16.toUInt32).toNat < 2 ^ 32 then ((x.toUInt32.toUInt16.toUInt32).toNat : Int) else _) = _
    rw [UInt16.toNat_toUInt32]
    rw [if_pos (by omega)]
  rw [h]
  have := x.toUInt32.toUInt16.toNat_lt
  omega
theorem own_add {a b : Int32} (h : -2147483648 ≤ a.toInt + b.toInt ∧ a.toInt + b.toInt < 2147483648) : (a + b).toInt = a.toInt + b.toInt := by
  rw [Int32.toInt_add]; exact Int.bmod_eq_of_le (by omega) (by omega)
theorem own_sub {a b : Int32} (h : -2147483648 ≤ a.toInt - b.toInt ∧ a.toInt - b.toInt < 2147483648) : (a - b).toInt = a.toInt - b.toInt := by
  rw [Int32.toInt_sub]; exact Int.bmod_eq_of_le (by omega) (by omega)
theorem own_i1 {x : Int32} (h : 0 ≤ x.toInt ∧ x.toInt ≤ 65535) : (own_r1 x).toInt = if x.toInt < 57344 then (if x.toInt < 55296 then x.toInt else x.toInt + 8192) else x.toInt - 2048 := by
  have e1 : (x + (8192 : Int32)).toInt = x.toInt + 8192 := own_add (by rw [show (8192 : Int32).toInt = 8192 from rfl]; omega)
  have e2 : (x - (2048 : Int32)).toInt = x.toInt - 2048 := own_sub (by rw [show (2048 : Int32).toInt = 2048 from rfl]; omega)
  simp only [own_r1, apply_ite Int32.toInt, Int32.lt_iff_toInt_lt, Int32.reduceToInt, e1, e2]
theorem own_i2 {x : Int32} (h : 0 ≤ x.toInt ∧ x.toInt ≤ 65535) : (own_r2 x).toInt = if x.toInt < 57344 then (if x.toInt < 55296 then x.toInt else x.toInt + 8192) else x.toInt - 2048 := by
  have e1 : (x - (57344 : Int32)).toInt = x.toInt - 57344 := own_sub (by rw [show (57344 : Int32).toInt = 57344 from rfl]; omega)
  have e2 : ((55296 : Int32) + (x - (57344 : Int32))).toInt = 55296 + (x.toInt - 57344) := by rw [own_add] <;> rw [e1, show (55296 : Int32).toInt = 55296 from rfl]; omega
  have e3 : (x - (55296 : Int32)).toInt = x.toInt - 55296 := own_sub (by rw [show (55296 : Int32).toInt = 55296 from rfl]; omega)
  have e4 : ((63488 : Int32) + (x - (55296 : Int32))).toInt = 63488 + (x.toInt - 55296) := by rw [own_add] <;> rw [e3, show (63488 : Int32).toInt = 63488 from rfl]; omega
  simp only [own_r2, own_r3, apply_ite Int32.toInt, Int32.lt_iff_toInt_lt, ← Int32.toInt_inj, Int32.reduceToInt, e1, e2, e3, e4]
  omega
theorem own_ord {x y : Int32} (h : 0 ≤ x.toInt ∧ x.toInt ≤ 65535) (k : 0 ≤ y.toInt ∧ y.toInt ≤ 65535) : (if own_r1 x < own_r1 y then (1 : Int32) else 0) = own_r4 x y := by
  have i1 := own_i1 h
  have i2 := own_i1 k
  simp only [own_r4, own_r3, Int32.lt_iff_toInt_lt, ← Int32.toInt_inj, Int32.reduceToInt, apply_ite Int32.toInt, i1, i2]
  by_cases a1 : x.toInt < 55296 <;> by_cases a2 : x.toInt < 57344 <;> by_cases b1 : y.toInt < 55296 <;> by_cases b2 : y.toInt < 57344 <;> simp only [a1, a2, b1, b2, if_true, if_false, ite_true, ite_false] <;> omega
theorem own_inj {x y : Int32} (h : 0 ≤ x.toInt ∧ x.toInt ≤ 65535) (k : 0 ≤ y.toInt ∧ y.toInt ≤ 65535) : own_r1 x = own_r1 y ↔ x = y := by
  have i1 := own_i1 h
  have i2 := own_i1 k
  rw [← Int32.toInt_inj, ← Int32.toInt_inj, i1, i2]
  omega
theorem pd3 : parseMethodDescriptor "(CC)Z" = some ⟨[.char, .char], some .boolean⟩ := by decide +kernel
theorem ef_0 (m : MethodId) (p0 : Int32) (p1 : Int32) : entryFrame m #[(.int p0), (.int p1)] maxLocals = mkF m 0 #[.val (.int p0), .val (.int p1), .unset, .unset, .unset, .unset, .unset, .unset, .unset, .unset] [] := by (first | (simp [entryFrame, mkF, argsToLocals, Value.category, maxLocals]; done) | rfl)
set_option maxRecDepth 65536 in
theorem own_leaf0 {p0 p1 v1 v2 v3 v4 v7 v8 v10 v12 v14 v16 v18 v20 v25 v26 v27 v28 : Int32} (hv1 : v1 = (p0.toUInt32.toUInt16.toUInt32.toInt32)) (hv2 : v2 = (p1.toUInt32.toUInt16.toUInt32.toInt32)) (hv3 : v3 = (own_r1 v1)) (hv4 : v4 = (own_r1 v2)) (hv7 : v7 = (if (65535 : Int32) < v3 then (0 : Int32) else (1 : Int32))) (hv8 : v8 = (if v3 < (0 : Int32) then (0 : Int32) else v7)) (hv10 : v10 = (if v3 = (own_r2 v1) then (1 : Int32) else (0 : Int32))) (hv12 : v12 = (if v3 < v4 then (1 : Int32) else (0 : Int32))) (hv14 : v14 = (if v12 = (own_r4 v1 v2) then (1 : Int32) else (0 : Int32))) (hv16 : v16 = (if v3 = v4 then (1 : Int32) else (0 : Int32))) (hv18 : v18 = (if v1 = v2 then (1 : Int32) else (0 : Int32))) (hv20 : v20 = (if v16 = v18 then (1 : Int32) else (0 : Int32))) (hv25 : v25 = (if v20 = (0 : Int32) then (0 : Int32) else (1 : Int32))) (hv26 : v26 = (if v14 = (0 : Int32) then (0 : Int32) else v25)) (hv27 : v27 = (if v10 = (0 : Int32) then (0 : Int32) else v26)) (hv28 : v28 = (if v8 = (0 : Int32) then (0 : Int32) else v27)) : v28 = 1 := by
  have c1 := own_chr p0
  have c2 := own_chr p1
  rw [← hv1] at c1
  rw [← hv2] at c2
  have i1 := own_i1 c1
  have i3 := own_i2 c1
  rw [← hv3] at i1
  have b1 : v8 = 1 := by
    rw [hv8, if_neg (by rw [Int32.lt_iff_toInt_lt, i1, show (0 : Int32).toInt = 0 from rfl]; omega), hv7, if_neg (by rw [Int32.lt_iff_toInt_lt, i1, show (65535 : Int32).toInt = 65535 from rfl]; omega)]
  have b2 : v10 = 1 := by rw [hv10, if_pos (Int32.toInt_inj.mp (i1.trans i3.symm))]
  have b3 : v14 = 1 := by rw [hv14, hv12, hv3, hv4, if_pos (own_ord c1 c2)]
  have b4 : v20 = 1 := by
    rw [hv20, if_pos]
    rw [hv16, hv18, hv3, hv4]
    by_cases q : v1 = v2
    · rw [if_pos ((own_inj c1 c2).mpr q), if_pos q]
    · rw [if_neg (fun r => q ((own_inj c1 c2).mp r)), if_neg q]
  rw [hv28, b1, if_neg (by decide), hv27, b2, if_neg (by decide), hv26, b3, if_neg (by decide), hv25, b4, if_neg (by decide)]
def Q0 (Z : State) (p0 : Int32) (p1 : Int32) (h0 : Heap) (n0 : Nat) (v : Option Value) (h : Heap) (L : List Loc) : Prop := v = some (.int 1) ∧ Fr n0 L
set_option maxRecDepth 65536 in
set_option maxHeartbeats 40000000 in
theorem rm0 (l : Launch) (Z : State) (a0 : Array Value) (hw : ∀ d ∈ tables_1, d.before a0 Z = true) (ws : List Jvm.Cond) (p0 : Int32) (p1 : Int32) (h0 : Heap) (n0 : Nat) (Z0 : n0 ≤ h0.size) :
    MetFree l x (head1 (Jvm.Cond.code x code maxLocals ret :: ws) room_1) (fun a U => a = #[(.int p0), (.int p1)] ∧ Z.Warmed39 U.vm ∧ U.heap = h0) (fun _ _ _ _ _ => True) (fun _ U o U' => ∃ v L, o = .returned v ∧ Q0 Z p0 p1 h0 n0 v U'.heap L ∧ FrameEnd U o U' L room_1.cells room_1.slots) := by
  refine MetFree.of_bodySF (plainFor_of_name pn1) hisR ?_
  intro p e s m args below meth c s₁ Bd hml0 hP hK
  obtain ⟨rfl, hZ, hh⟩ := hP
  have hx := Bd.exec
  have hby := Bd.bytes
  have hml : c.maxLocals = 10 := hml0
  have hown : s.vm.findClass "inducere/Utf8OrderRankPinLaw" = some m.cls := findClass_of_methodNamed Bd.named
  have hnm := (name_of_methodNamed Bd.named Bd.method).1
  have X0 : Stand p l e room_1 s m #[(.int p0), (.int p1)] below meth c s₁ [] 0 0 := Stand.of_body Bd
  have e0 : s₁.heap = h0 := by rw [← hh, Bd.state]; rfl
  have N0 := Fr.nil n0
  have K0 : Keep h0 h0 [] := Keep.refl h0 _
  show own_Go p e below s (Q0 Z p0 p1 h0 n0) room_1.cells room_1.slots (s₁.setTop (entryFrame m #[(.int p0), (.int p1)] maxLocals))
  refine own_go (fun t k => castTop (ef_0 m p0 p1) k) ?_
  obtain ⟨v1, hv1⟩ : ∃ z : Int32, z = (p0.toUInt32.toUInt16.toUInt32.toInt32) := ⟨_, rfl⟩
  obtain ⟨v2, hv2⟩ : ∃ z : Int32, z = (p1.toUInt32.toUInt16.toUInt32.toInt32) := ⟨_, rfl⟩
  obtain ⟨_, _, ⟨T101, L101, k101, n101⟩, -, X101, ⟨Lc101, hQ101, l101, y101, z101⟩, st101⟩ := Jvm.LawKit.callS X0 hx (y := (⟨"inducere/Utf8Order", "rank", "(C)I"⟩ : MethodName)) hown (mvT hZ (hw _ (List.mem_of_getElem? (i := 0) rfl))) (mvT hZ (hw _ (List.mem_of_getElem? (i := 1) rfl))) (mvT hZ (hw _ (List.mem_of_getElem? (i := 2) rfl))) (mvT hZ (hw _ (List.mem_of_getElem? (i := 3) rfl))) (by decide) (backOf (W := 0) (rm1 l Z a0 hw [] v1 h0 n0 Z0 ) hZ (hw _ (List.mem_of_getElem? (i := 3) rfl)) (hw _ (List.mem_of_getElem? (i := 2) rfl)) (by decide) (by decide)) (g := (mkF m 7 #[.val (.int p0), .val (.int p1), .val (.int v1), .val (.int v2), .unset, .unset, .unset, .unset, .unset, .unset] [(.int v1)])) rfl (by rw [hml]; rfl) (argsL := [(.int v1)]) (rest := []) (lenOf pd2 rfl) rfl (by show 2 * 0 + _ ≤ _; exact Nat.le_of_eq rfl) (hb hby at_7) (fun _ _ => ⟨rfl, e0, (by decide : 0 + 0 ≤ _), (by decide : 0 + 0 ≤ _)⟩)
  dsimp only [Pt.U, Pt.locs, Pt.cells, Pt.slots] at X101 l101 y101 z101 st101 hQ101
  subst l101 y101 z101
  obtain ⟨rfl, N101q, e101⟩ := hQ101
  have N101 := Fr.app N0 N101q
  obtain ⟨v3, hv3⟩ : ∃ z : Int32, z = (own_r1 v1) := ⟨_, rfl⟩
  obtain ⟨_, _, ⟨T102, L102, k102, n102⟩, -, X102, ⟨Lc102, hQ102, l102, y102, z102⟩, st102⟩ := Jvm.LawKit.callS X101 hx (y := (⟨"inducere/Utf8Order", "rank", "(C)I"⟩ : MethodName)) hown (mvT hZ (hw _ (List.mem_of_getElem? (i := 0) rfl))) (mvT hZ (hw _ (List.mem_of_getElem? (i := 1) rfl))) (mvT hZ (hw _ (List.mem_of_getElem? (i := 2) rfl))) (mvT hZ (hw _ (List.mem_of_getElem? (i := 3) rfl))) (by decide) (backOf (W := 0) (rm1 l Z a0 hw [] v2 h0 n0 Z0 ) hZ (hw _ (List.mem_of_getElem? (i := 3) rfl)) (hw _ (List.mem_of_getElem? (i := 2) rfl)) (by decide) (by decide)) (g := (mkF m 13 #[.val (.int p0), .val (.int p1), .val (.int v1), .val (.int v2), .val (.int v3), .unset, .unset, .unset, .unset, .unset] [(.int v2)])) rfl (by rw [hml]; rfl) (argsL := [(.int v2)]) (rest := []) (lenOf pd2 rfl) rfl (by show 2 * 0 + _ ≤ _; exact Nat.le_of_eq rfl) (hb hby at_13) (fun _ _ => ⟨rfl, e101, (by decide : 0 + 0 ≤ _), (by decide : 0 + 0 ≤ _)⟩)
  dsimp only [Pt.U, Pt.locs, Pt.cells, Pt.slots] at X102 l102 y102 z102 st102 hQ102
  subst l102 y102 z102
  obtain ⟨rfl, N102q, e102⟩ := hQ102
  have N102 := Fr.app N101 N102q
  obtain ⟨v4, hv4⟩ : ∃ z : Int32, z = (own_r1 v2) := ⟨_, rfl⟩
  obtain ⟨v7, hv7⟩ : ∃ z : Int32, z = (if (65535 : Int32) < v3 then (0 : Int32) else (1 : Int32)) := ⟨_, rfl⟩
  obtain ⟨v8, hv8⟩ : ∃ z : Int32, z = (if v3 < (0 : Int32) then (0 : Int32) else v7) := ⟨_, rfl⟩
  obtain ⟨T108, lc108, X108, N108, e108, st108⟩ := own_mrg (n0 := n0) (h := h0) (g := (mkF m 20 #[.val (.int p0), .val (.int p1), .val (.int v1), .val (.int v2), .val (.int v3), .val (.int v4), .unset, .unset, .unset, .unset] [(.int v3)])) (g' := (mkF m 35 #[.val (.int p0), .val (.int p1), .val (.int v1), .val (.int v2), .val (.int v3), .val (.int v4), .unset, .unset, .unset, .unset] [(.int v8)])) X102 (by
    by_cases hc20_5 : v3 < (0 : Int32)
    · have hgo103 : ∀ t, Steps p.tables e below (T102.setTop (mkF m 35 #[.val (.int p0), .val (.int p1), .val (.int v1), .val (.int v2), .val (.int v3), .val (.int v4), .unset, .unset, .unset, .unset] [(.int (0 : Int32))])) t → Steps p.tables e below (T102.setTop (mkF m 20 #[.val (.int p0), .val (.int p1), .val (.int v1), .val (.int v2), .val (.int v3), .val (.int v4), .unset, .unset, .unset, .unset] [(.int v3)])) t := by
        intro t kt
        show Steps p.tables e below (T102.setTop (mkF m 20 #[.val (.int p0), .val (.int p1), .val (.int v1), .val (.int v2), .val (.int v3), .val (.int v4), .unset, .unset, .unset, .unset] [(.int v3)])) _
        refine XS.ifYes X102.here hx rfl (pc0 := 20) (pc' := 34) rfl (hb hby at_20) rfl ((if0 _ _).trans (tlt hc20_5).1) (by decide) (by decide) ?_
        show Steps p.tables e below (T102.setTop (mkF m 34 #[.val (.int p0), .val (.int p1), .val (.int v1), .val (.int v2), .val (.int v3), .val (.int v4), .unset, .unset, .unset, .unset] [])) _
        refine XS.iconst X102.here hx rfl (hb hby at_34) ?_
        exact kt
      refine own_arm hgo103 ?_
      exact own_armEnd X102 N102 e102 (by rw [hv8.trans (if_pos hc20_5)])
    · obtain ⟨T106, lc106, X106, N106, e106, st106⟩ := own_mrg (n0 := n0) (h := h0) (g := (mkF m 27 #[.val (.int p0), .val (.int p1), .val (.int v1), .val (.int v2), .val (.int v3), .val (.int v4), .unset, .unset, .unset, .unset] [(.int (65535 : Int32)), (.int v3)])) (g' := (mkF m 35 #[.val (.int p0), .val (.int p1), .val (.int v1), .val (.int v2), .val (.int v3), .val (.int v4), .unset, .unset, .unset, .unset] [(.int v7)])) X102 (by
        by_cases hc27_6 : (65535 : Int32) < v3
        · have hgo104 : ∀ t, Steps p.tables e below (T102.setTop (mkF m 35 #[.val (.int p0), .val (.int p1), .val (.int v1), .val (.int v2), .val (.int v3), .val (.int v4), .unset, .unset, .unset, .unset] [(.int (0 : Int32))])) t → Steps p.tables e below (T102.setTop (mkF m 27 #[.val (.int p0), .val (.int p1), .val (.int v1), .val (.int v2), .val (.int v3), .val (.int v4), .unset, .unset, .unset, .unset] [(.int (65535 : Int32)), (.int v3)])) t := by
            intro t kt
            show Steps p.tables e below (T102.setTop (mkF m 27 #[.val (.int p0), .val (.int p1), .val (.int v1), .val (.int v2), .val (.int v3), .val (.int v4), .unset, .unset, .unset, .unset] [(.int (65535 : Int32)), (.int v3)])) _
            refine XS.icmpYes X102.here hx rfl (pc0 := 27) (pc' := 34) rfl (hb hby at_27) rfl (tlt hc27_6).2.2.1 (by decide) (by decide) ?_
            show Steps p.tables e below (T102.setTop (mkF m 34 #[.val (.int p0), .val (.int p1), .val (.int v1), .val (.int v2), .val (.int v3), .val (.int v4), .unset, .unset, .unset, .unset] [])) _
            refine XS.iconst X102.here hx rfl (hb hby at_34) ?_
            exact kt
          refine own_arm hgo104 ?_
          exact own_armEnd X102 N102 e102 (by rw [hv7.trans (if_pos hc27_6)])
        · have hgo105 : ∀ t, Steps p.tables e below (T102.setTop (mkF m 35 #[.val (.int p0), .val (.int p1), .val (.int v1), .val (.int v2), .val (.int v3), .val (.int v4), .unset, .unset, .unset, .unset] [(.int (1 : Int32))])) t → Steps p.tables e below (T102.setTop (mkF m 27 #[.val (.int p0), .val (.int p1), .val (.int v1), .val (.int v2), .val (.int v3), .val (.int v4), .unset, .unset, .unset, .unset] [(.int (65535 : Int32)), (.int v3)])) t := by
            intro t kt
            show Steps p.tables e below (T102.setTop (mkF m 27 #[.val (.int p0), .val (.int p1), .val (.int v1), .val (.int v2), .val (.int v3), .val (.int v4), .unset, .unset, .unset, .unset] [(.int (65535 : Int32)), (.int v3)])) _
            refine XS.icmpNo X102.here hx rfl (hb hby at_27) rfl (flt hc27_6).2.2.1 ?_
            show Steps p.tables e below (T102.setTop (mkF m 30 #[.val (.int p0), .val (.int p1), .val (.int v1), .val (.int v2), .val (.int v3), .val (.int v4), .unset, .unset, .unset, .unset] [])) _
            refine XS.iconst X102.here hx rfl (hb hby at_30) ?_
            show Steps p.tables e below (T102.setTop (mkF m 31 #[.val (.int p0), .val (.int p1), .val (.int v1), .val (.int v2), .val (.int v3), .val (.int v4), .unset, .unset, .unset, .unset] [(.int (1 : Int32))])) _
            refine XS.goto X102.here hx rfl (pc0 := 31) (pc' := 35) rfl (hb hby at_31) (by decide) (by decide) ?_
            exact kt
          refine own_arm hgo105 ?_
          exact own_armEnd X102 N102 e102 (by rw [hv7.trans (if_neg hc27_6)]))
      have hgo107 : ∀ t, Steps p.tables e below (T106.setTop (mkF m 35 #[.val (.int p0), .val (.int p1), .val (.int v1), .val (.int v2), .val (.int v3), .val (.int v4), .unset, .unset, .unset, .unset] [(.int v7)])) t → Steps p.tables e below (T102.setTop (mkF m 20 #[.val (.int p0), .val (.int p1), .val (.int v1), .val (.int v2), .val (.int v3), .val (.int v4), .unset, .unset, .unset, .unset] [(.int v3)])) t := by
        intro t kt
        show Steps p.tables e below (T102.setTop (mkF m 20 #[.val (.int p0), .val (.int p1), .val (.int v1), .val (.int v2), .val (.int v3), .val (.int v4), .unset, .unset, .unset, .unset] [(.int v3)])) _
        refine XS.ifNo X102.here hx rfl (hb hby at_20) rfl ((if0 _ _).trans (flt hc20_5).1) ?_
        show Steps p.tables e below (T102.setTop (mkF m 23 #[.val (.int p0), .val (.int p1), .val (.int v1), .val (.int v2), .val (.int v3), .val (.int v4), .unset, .unset, .unset, .unset] [])) _
        refine XS.iload X102.here hx rfl (hb hby at_23) rfl ?_
        show Steps p.tables e below (T102.setTop (mkF m 25 #[.val (.int p0), .val (.int p1), .val (.int v1), .val (.int v2), .val (.int v3), .val (.int v4), .unset, .unset, .unset, .unset] [(.int v3)])) _
        refine X102.ldcInt hx hown (mvT hZ (hw _ (List.mem_of_getElem? (i := 6) rfl))) (g := (mkF m 25 #[.val (.int p0), .val (.int p1), .val (.int v1), .val (.int v2), .val (.int v3), .val (.int v4), .unset, .unset, .unset, .unset] [(.int v3)])) rfl (hb hby at_25) _ ?_
        show Steps p.tables e below (T102.setTop (mkF m 27 #[.val (.int p0), .val (.int p1), .val (.int v1), .val (.int v2), .val (.int v3), .val (.int v4), .unset, .unset, .unset, .unset] [(.int (65535 : Int32)), (.int v3)])) _
        refine st106 _ ?_
        exact kt
      refine own_arm hgo107 ?_
      exact own_armEnd X106 N106 e106 (by rw [hv8.trans (if_neg hc20_5)]))
  obtain ⟨_, _, ⟨T109, L109, k109, n109⟩, -, X109, ⟨Lc109, hQ109, l109, y109, z109⟩, st109⟩ := Jvm.LawKit.callS X108 hx (y := (⟨"inducere/Utf8OrderRankPinLaw", "position", "(C)I"⟩ : MethodName)) hown (mvT hZ (hw _ (List.mem_of_getElem? (i := 7) rfl))) (mvT hZ (hw _ (List.mem_of_getElem? (i := 8) rfl))) (mvT hZ (hw _ (List.mem_of_getElem? (i := 9) rfl))) (mvT hZ (hw _ (List.mem_of_getElem? (i := 10) rfl))) (by decide) (backOf (W := 1) (rm2 l Z a0 hw [] v1 h0 n0 Z0 ) hZ (hw _ (List.mem_of_getElem? (i := 10) rfl)) (hw _ (List.mem_of_getElem? (i := 9) rfl)) (by decide) (by decide)) (g := (mkF m 40 #[.val (.int p0), .val (.int p1), .val (.int v1), .val (.int v2), .val (.int v3), .val (.int v4), .val (.int v8), .unset, .unset, .unset] [(.int v1), (.int v3)])) rfl (by rw [hml]; rfl) (argsL := [(.int v1)]) (rest := [(.int v3)]) (lenOf pd2 rfl) rfl (by show 2 * 0 + _ ≤ _; exact Nat.le_of_eq rfl) (hb hby at_40) (fun _ _ => ⟨rfl, e108, (by decide : 0 + 0 ≤ _), (by decide : 0 + 0 ≤ _)⟩)
  dsimp only [Pt.U, Pt.locs, Pt.cells, Pt.slots] at X109 l109 y109 z109 st109 hQ109
  subst l109 y109 z109
  obtain ⟨rfl, N109q, e109⟩ := hQ109
  have N109 := Fr.app N108 N109q
  obtain ⟨v10, hv10⟩ : ∃ z : Int32, z = (if v3 = (own_r2 v1) then (1 : Int32) else (0 : Int32)) := ⟨_, rfl⟩
  obtain ⟨T112, lc112, X112, N112, e112, st112⟩ := own_mrg (n0 := n0) (h := h0) (g := (mkF m 43 #[.val (.int p0), .val (.int p1), .val (.int v1), .val (.int v2), .val (.int v3), .val (.int v4), .val (.int v8), .unset, .unset, .unset] [(.int (own_r2 v1)), (.int v3)])) (g' := (mkF m 51 #[.val (.int p0), .val (.int p1), .val (.int v1), .val (.int v2), .val (.int v3), .val (.int v4), .val (.int v8), .unset, .unset, .unset] [(.int v10)])) X109 (by
    by_cases hc43_9 : v3 = (own_r2 v1)
    · have hgo110 : ∀ t, Steps p.tables e below (T109.setTop (mkF m 51 #[.val (.int p0), .val (.int p1), .val (.int v1), .val (.int v2), .val (.int v3), .val (.int v4), .val (.int v8), .unset, .unset, .unset] [(.int (1 : Int32))])) t → Steps p.tables e below (T109.setTop (mkF m 43 #[.val (.int p0), .val (.int p1), .val (.int v1), .val (.int v2), .val (.int v3), .val (.int v4), .val (.int v8), .unset, .unset, .unset] [(.int (own_r2 v1)), (.int v3)])) t := by
        intro t kt
        show Steps p.tables e below (T109.setTop (mkF m 43 #[.val (.int p0), .val (.int p1), .val (.int v1), .val (.int v2), .val (.int v3), .val (.int v4), .val (.int v8), .unset, .unset, .unset] [(.int (own_r2 v1)), (.int v3)])) _
        refine XS.icmpNo X109.here hx rfl (hb hby at_43) rfl (teq hc43_9).2 ?_
        show Steps p.tables e below (T109.setTop (mkF m 46 #[.val (.int p0), .val (.int p1), .val (.int v1), .val (.int v2), .val (.int v3), .val (.int v4), .val (.int v8), .unset, .unset, .unset] [])) _
        refine XS.iconst X109.here hx rfl (hb hby at_46) ?_
        show Steps p.tables e below (T109.setTop (mkF m 47 #[.val (.int p0), .val (.int p1), .val (.int v1), .val (.int v2), .val (.int v3), .val (.int v4), .val (.int v8), .unset, .unset, .unset] [(.int (1 : Int32))])) _
        refine XS.goto X109.here hx rfl (pc0 := 47) (pc' := 51) rfl (hb hby at_47) (by decide) (by decide) ?_
        exact kt
      refine own_arm hgo110 ?_
      exact own_armEnd X109 N109 e109 (by rw [hv10.trans (if_pos hc43_9)])
    · have hgo111 : ∀ t, Steps p.tables e below (T109.setTop (mkF m 51 #[.val (.int p0), .val (.int p1), .val (.int v1), .val (.int v2), .val (.int v3), .val (.int v4), .val (.int v8), .unset, .unset, .unset] [(.int (0 : Int32))])) t → Steps p.tables e below (T109.setTop (mkF m 43 #[.val (.int p0), .val (.int p1), .val (.int v1), .val (.int v2), .val (.int v3), .val (.int v4), .val (.int v8), .unset, .unset, .unset] [(.int (own_r2 v1)), (.int v3)])) t := by
        intro t kt
        show Steps p.tables e below (T109.setTop (mkF m 43 #[.val (.int p0), .val (.int p1), .val (.int v1), .val (.int v2), .val (.int v3), .val (.int v4), .val (.int v8), .unset, .unset, .unset] [(.int (own_r2 v1)), (.int v3)])) _
        refine XS.icmpYes X109.here hx rfl (pc0 := 43) (pc' := 50) rfl (hb hby at_43) rfl (feq hc43_9).2 (by decide) (by decide) ?_
        show Steps p.tables e below (T109.setTop (mkF m 50 #[.val (.int p0), .val (.int p1), .val (.int v1), .val (.int v2), .val (.int v3), .val (.int v4), .val (.int v8), .unset, .unset, .unset] [])) _
        refine XS.iconst X109.here hx rfl (hb hby at_50) ?_
        exact kt
      refine own_arm hgo111 ?_
      exact own_armEnd X109 N109 e109 (by rw [hv10.trans (if_neg hc43_9)]))
  obtain ⟨v12, hv12⟩ : ∃ z : Int32, z = (if v3 < v4 then (1 : Int32) else (0 : Int32)) := ⟨_, rfl⟩
  obtain ⟨T115, lc115, X115, N115, e115, st115⟩ := own_mrg (n0 := n0) (h := h0) (g := (mkF m 57 #[.val (.int p0), .val (.int p1), .val (.int v1), .val (.int v2), .val (.int v3), .val (.int v4), .val (.int v8), .val (.int v10), .unset, .unset] [(.int v4), (.int v3)])) (g' := (mkF m 65 #[.val (.int p0), .val (.int p1), .val (.int v1), .val (.int v2), .val (.int v3), .val (.int v4), .val (.int v8), .val (.int v10), .unset, .unset] [(.int v12)])) X112 (by
    by_cases hc57_11 : v3 < v4
    · have hgo113 : ∀ t, Steps p.tables e below (T112.setTop (mkF m 65 #[.val (.int p0), .val (.int p1), .val (.int v1), .val (.int v2), .val (.int v3), .val (.int v4), .val (.int v8), .val (.int v10), .unset, .unset] [(.int (1 : Int32))])) t → Steps p.tables e below (T112.setTop (mkF m 57 #[.val (.int p0), .val (.int p1), .val (.int v1), .val (.int v2), .val (.int v3), .val (.int v4), .val (.int v8), .val (.int v10), .unset, .unset] [(.int v4), (.int v3)])) t := by
        intro t kt
        show Steps p.tables e below (T112.setTop (mkF m 57 #[.val (.int p0), .val (.int p1), .val (.int v1), .val (.int v2), .val (.int v3), .val (.int v4), .val (.int v8), .val (.int v10), .unset, .unset] [(.int v4), (.int v3)])) _
        refine XS.icmpNo X112.here hx rfl (hb hby at_57) rfl (tlt hc57_11).2.1 ?_
        show Steps p.tables e below (T112.setTop (mkF m 60 #[.val (.int p0), .val (.int p1), .val (.int v1), .val (.int v2), .val (.int v3), .val (.int v4), .val (.int v8), .val (.int v10), .unset, .unset] [])) _
        refine XS.iconst X112.here hx rfl (hb hby at_60) ?_
        show Steps p.tables e below (T112.setTop (mkF m 61 #[.val (.int p0), .val (.int p1), .val (.int v1), .val (.int v2), .val (.int v3), .val (.int v4), .val (.int v8), .val (.int v10), .unset, .unset] [(.int (1 : Int32))])) _
        refine XS.goto X112.here hx rfl (pc0 := 61) (pc' := 65) rfl (hb hby at_61) (by decide) (by decide) ?_
        exact kt
      refine own_arm hgo113 ?_
      exact own_armEnd X112 N112 e112 (by rw [hv12.trans (if_pos hc57_11)])
    · have hgo114 : ∀ t, Steps p.tables e below (T112.setTop (mkF m 65 #[.val (.int p0), .val (.int p1), .val (.int v1), .val (.int v2), .val (.int v3), .val (.int v4), .val (.int v8), .val (.int v10), .unset, .unset] [(.int (0 : Int32))])) t → Steps p.tables e below (T112.setTop (mkF m 57 #[.val (.int p0), .val (.int p1), .val (.int v1), .val (.int v2), .val (.int v3), .val (.int v4), .val (.int v8), .val (.int v10), .unset, .unset] [(.int v4), (.int v3)])) t := by
        intro t kt
        show Steps p.tables e below (T112.setTop (mkF m 57 #[.val (.int p0), .val (.int p1), .val (.int v1), .val (.int v2), .val (.int v3), .val (.int v4), .val (.int v8), .val (.int v10), .unset, .unset] [(.int v4), (.int v3)])) _
        refine XS.icmpYes X112.here hx rfl (pc0 := 57) (pc' := 64) rfl (hb hby at_57) rfl (flt hc57_11).2.1 (by decide) (by decide) ?_
        show Steps p.tables e below (T112.setTop (mkF m 64 #[.val (.int p0), .val (.int p1), .val (.int v1), .val (.int v2), .val (.int v3), .val (.int v4), .val (.int v8), .val (.int v10), .unset, .unset] [])) _
        refine XS.iconst X112.here hx rfl (hb hby at_64) ?_
        exact kt
      refine own_arm hgo114 ?_
      exact own_armEnd X112 N112 e112 (by rw [hv12.trans (if_neg hc57_11)]))
  obtain ⟨_, _, ⟨T116, L116, k116, n116⟩, -, X116, ⟨Lc116, hQ116, l116, y116, z116⟩, st116⟩ := Jvm.LawKit.callS X115 hx (y := (⟨"inducere/Utf8OrderRankPinLaw", "before", "(CC)Z"⟩ : MethodName)) hown (mvT hZ (hw _ (List.mem_of_getElem? (i := 15) rfl))) (mvT hZ (hw _ (List.mem_of_getElem? (i := 16) rfl))) (mvT hZ (hw _ (List.mem_of_getElem? (i := 9) rfl))) (mvT hZ (hw _ (List.mem_of_getElem? (i := 17) rfl))) (by decide) (backOf (W := 1) (rm4 l Z a0 hw [] v1 v2 h0 n0 Z0 ) hZ (hw _ (List.mem_of_getElem? (i := 17) rfl)) (hw _ (List.mem_of_getElem? (i := 9) rfl)) (by decide) (by decide)) (g := (mkF m 67 #[.val (.int p0), .val (.int p1), .val (.int v1), .val (.int v2), .val (.int v3), .val (.int v4), .val (.int v8), .val (.int v10), .unset, .unset] [(.int v2), (.int v1), (.int v12)])) rfl (by rw [hml]; rfl) (argsL := [(.int v1), (.int v2)]) (rest := [(.int v12)]) (lenOf pd3 rfl) rfl (by show 2 * 0 + _ ≤ _; exact Nat.le_of_eq rfl) (hb hby at_67) (fun _ _ => ⟨rfl, e115, (by decide : 0 + 0 ≤ _), (by decide : 0 + 0 ≤ _)⟩)
  dsimp only [Pt.U, Pt.locs, Pt.cells, Pt.slots] at X116 l116 y116 z116 st116 hQ116
  subst l116 y116 z116
  obtain ⟨rfl, N116q, e116⟩ := hQ116
  have N116 := Fr.app N115 N116q
  obtain ⟨v14, hv14⟩ : ∃ z : Int32, z = (if v12 = (own_r4 v1 v2) then (1 : Int32) else (0 : Int32)) := ⟨_, rfl⟩
  obtain ⟨T119, lc119, X119, N119, e119, st119⟩ := own_mrg (n0 := n0) (h := h0) (g := (mkF m 70 #[.val (.int p0), .val (.int p1), .val (.int v1), .val (.int v2), .val (.int v3), .val (.int v4), .val (.int v8), .val (.int v10), .unset, .unset] [(.int (own_r4 v1 v2)), (.int v12)])) (g' := (mkF m 78 #[.val (.int p0), .val (.int p1), .val (.int v1), .val (.int v2), .val (.int v3), .val (.int v4), .val (.int v8), .val (.int v10), .unset, .unset] [(.int v14)])) X116 (by
    by_cases hc70_13 : v12 = (own_r4 v1 v2)
    · have hgo117 : ∀ t, Steps p.tables e below (T116.setTop (mkF m 78 #[.val (.int p0), .val (.int p1), .val (.int v1), .val (.int v2), .val (.int v3), .val (.int v4), .val (.int v8), .val (.int v10), .unset, .unset] [(.int (1 : Int32))])) t → Steps p.tables e below (T116.setTop (mkF m 70 #[.val (.int p0), .val (.int p1), .val (.int v1), .val (.int v2), .val (.int v3), .val (.int v4), .val (.int v8), .val (.int v10), .unset, .unset] [(.int (own_r4 v1 v2)), (.int v12)])) t := by
        intro t kt
        show Steps p.tables e below (T116.setTop (mkF m 70 #[.val (.int p0), .val (.int p1), .val (.int v1), .val (.int v2), .val (.int v3), .val (.int v4), .val (.int v8), .val (.int v10), .unset, .unset] [(.int (own_r4 v1 v2)), (.int v12)])) _
        refine XS.icmpNo X116.here hx rfl (hb hby at_70) rfl (teq hc70_13).2 ?_
        show Steps p.tables e below (T116.setTop (mkF m 73 #[.val (.int p0), .val (.int p1), .val (.int v1), .val (.int v2), .val (.int v3), .val (.int v4), .val (.int v8), .val (.int v10), .unset, .unset] [])) _
        refine XS.iconst X116.here hx rfl (hb hby at_73) ?_
        show Steps p.tables e below (T116.setTop (mkF m 74 #[.val (.int p0), .val (.int p1), .val (.int v1), .val (.int v2), .val (.int v3), .val (.int v4), .val (.int v8), .val (.int v10), .unset, .unset] [(.int (1 : Int32))])) _
        refine XS.goto X116.here hx rfl (pc0 := 74) (pc' := 78) rfl (hb hby at_74) (by decide) (by decide) ?_
        exact kt
      refine own_arm hgo117 ?_
      exact own_armEnd X116 N116 e116 (by rw [hv14.trans (if_pos hc70_13)])
    · have hgo118 : ∀ t, Steps p.tables e below (T116.setTop (mkF m 78 #[.val (.int p0), .val (.int p1), .val (.int v1), .val (.int v2), .val (.int v3), .val (.int v4), .val (.int v8), .val (.int v10), .unset, .unset] [(.int (0 : Int32))])) t → Steps p.tables e below (T116.setTop (mkF m 70 #[.val (.int p0), .val (.int p1), .val (.int v1), .val (.int v2), .val (.int v3), .val (.int v4), .val (.int v8), .val (.int v10), .unset, .unset] [(.int (own_r4 v1 v2)), (.int v12)])) t := by
        intro t kt
        show Steps p.tables e below (T116.setTop (mkF m 70 #[.val (.int p0), .val (.int p1), .val (.int v1), .val (.int v2), .val (.int v3), .val (.int v4), .val (.int v8), .val (.int v10), .unset, .unset] [(.int (own_r4 v1 v2)), (.int v12)])) _
        refine XS.icmpYes X116.here hx rfl (pc0 := 70) (pc' := 77) rfl (hb hby at_70) rfl (feq hc70_13).2 (by decide) (by decide) ?_
        show Steps p.tables e below (T116.setTop (mkF m 77 #[.val (.int p0), .val (.int p1), .val (.int v1), .val (.int v2), .val (.int v3), .val (.int v4), .val (.int v8), .val (.int v10), .unset, .unset] [])) _
        refine XS.iconst X116.here hx rfl (hb hby at_77) ?_
        exact kt
      refine own_arm hgo118 ?_
      exact own_armEnd X116 N116 e116 (by rw [hv14.trans (if_neg hc70_13)]))
  obtain ⟨v16, hv16⟩ : ∃ z : Int32, z = (if v3 = v4 then (1 : Int32) else (0 : Int32)) := ⟨_, rfl⟩
  obtain ⟨T122, lc122, X122, N122, e122, st122⟩ := own_mrg (n0 := n0) (h := h0) (g := (mkF m 84 #[.val (.int p0), .val (.int p1), .val (.int v1), .val (.int v2), .val (.int v3), .val (.int v4), .val (.int v8), .val (.int v10), .val (.int v14), .unset] [(.int v4), (.int v3)])) (g' := (mkF m 92 #[.val (.int p0), .val (.int p1), .val (.int v1), .val (.int v2), .val (.int v3), .val (.int v4), .val (.int v8), .val (.int v10), .val (.int v14), .unset] [(.int v16)])) X119 (by
    by_cases hc84_15 : v3 = v4
    · have hgo120 : ∀ t, Steps p.tables e below (T119.setTop (mkF m 92 #[.val (.int p0), .val (.int p1), .val (.int v1), .val (.int v2), .val (.int v3), .val (.int v4), .val (.int v8), .val (.int v10), .val (.int v14), .unset] [(.int (1 : Int32))])) t → Steps p.tables e below (T119.setTop (mkF m 84 #[.val (.int p0), .val (.int p1), .val (.int v1), .val (.int v2), .val (.int v3), .val (.int v4), .val (.int v8), .val (.int v10), .val (.int v14), .unset] [(.int v4), (.int v3)])) t := by
        intro t kt
        show Steps p.tables e below (T119.setTop (mkF m 84 #[.val (.int p0), .val (.int p1), .val (.int v1), .val (.int v2), .val (.int v3), .val (.int v4), .val (.int v8), .val (.int v10), .val (.int v14), .unset] [(.int v4), (.int v3)])) _
        refine XS.icmpNo X119.here hx rfl (hb hby at_84) rfl (teq hc84_15).2 ?_
        show Steps p.tables e below (T119.setTop (mkF m 87 #[.val (.int p0), .val (.int p1), .val (.int v1), .val (.int v2), .val (.int v3), .val (.int v4), .val (.int v8), .val (.int v10), .val (.int v14), .unset] [])) _
        refine XS.iconst X119.here hx rfl (hb hby at_87) ?_
        show Steps p.tables e below (T119.setTop (mkF m 88 #[.val (.int p0), .val (.int p1), .val (.int v1), .val (.int v2), .val (.int v3), .val (.int v4), .val (.int v8), .val (.int v10), .val (.int v14), .unset] [(.int (1 : Int32))])) _
        refine XS.goto X119.here hx rfl (pc0 := 88) (pc' := 92) rfl (hb hby at_88) (by decide) (by decide) ?_
        exact kt
      refine own_arm hgo120 ?_
      exact own_armEnd X119 N119 e119 (by rw [hv16.trans (if_pos hc84_15)])
    · have hgo121 : ∀ t, Steps p.tables e below (T119.setTop (mkF m 92 #[.val (.int p0), .val (.int p1), .val (.int v1), .val (.int v2), .val (.int v3), .val (.int v4), .val (.int v8), .val (.int v10), .val (.int v14), .unset] [(.int (0 : Int32))])) t → Steps p.tables e below (T119.setTop (mkF m 84 #[.val (.int p0), .val (.int p1), .val (.int v1), .val (.int v2), .val (.int v3), .val (.int v4), .val (.int v8), .val (.int v10), .val (.int v14), .unset] [(.int v4), (.int v3)])) t := by
        intro t kt
        show Steps p.tables e below (T119.setTop (mkF m 84 #[.val (.int p0), .val (.int p1), .val (.int v1), .val (.int v2), .val (.int v3), .val (.int v4), .val (.int v8), .val (.int v10), .val (.int v14), .unset] [(.int v4), (.int v3)])) _
        refine XS.icmpYes X119.here hx rfl (pc0 := 84) (pc' := 91) rfl (hb hby at_84) rfl (feq hc84_15).2 (by decide) (by decide) ?_
        show Steps p.tables e below (T119.setTop (mkF m 91 #[.val (.int p0), .val (.int p1), .val (.int v1), .val (.int v2), .val (.int v3), .val (.int v4), .val (.int v8), .val (.int v10), .val (.int v14), .unset] [])) _
        refine XS.iconst X119.here hx rfl (hb hby at_91) ?_
        exact kt
      refine own_arm hgo121 ?_
      exact own_armEnd X119 N119 e119 (by rw [hv16.trans (if_neg hc84_15)]))
  obtain ⟨v18, hv18⟩ : ∃ z : Int32, z = (if v1 = v2 then (1 : Int32) else (0 : Int32)) := ⟨_, rfl⟩
  obtain ⟨T125, lc125, X125, N125, e125, st125⟩ := own_mrg (n0 := n0) (h := h0) (g := (mkF m 94 #[.val (.int p0), .val (.int p1), .val (.int v1), .val (.int v2), .val (.int v3), .val (.int v4), .val (.int v8), .val (.int v10), .val (.int v14), .unset] [(.int v2), (.int v1), (.int v16)])) (g' := (mkF m 102 #[.val (.int p0), .val (.int p1), .val (.int v1), .val (.int v2), .val (.int v3), .val (.int v4), .val (.int v8), .val (.int v10), .val (.int v14), .unset] [(.int v18), (.int v16)])) X122 (by
    by_cases hc94_17 : v1 = v2
    · have hgo123 : ∀ t, Steps p.tables e below (T122.setTop (mkF m 102 #[.val (.int p0), .val (.int p1), .val (.int v1), .val (.int v2), .val (.int v3), .val (.int v4), .val (.int v8), .val (.int v10), .val (.int v14), .unset] [(.int (1 : Int32)), (.int v16)])) t → Steps p.tables e below (T122.setTop (mkF m 94 #[.val (.int p0), .val (.int p1), .val (.int v1), .val (.int v2), .val (.int v3), .val (.int v4), .val (.int v8), .val (.int v10), .val (.int v14), .unset] [(.int v2), (.int v1), (.int v16)])) t := by
        intro t kt
        show Steps p.tables e below (T122.setTop (mkF m 94 #[.val (.int p0), .val (.int p1), .val (.int v1), .val (.int v2), .val (.int v3), .val (.int v4), .val (.int v8), .val (.int v10), .val (.int v14), .unset] [(.int v2), (.int v1), (.int v16)])) _
        refine XS.icmpNo X122.here hx rfl (hb hby at_94) rfl (teq hc94_17).2 ?_
        show Steps p.tables e below (T122.setTop (mkF m 97 #[.val (.int p0), .val (.int p1), .val (.int v1), .val (.int v2), .val (.int v3), .val (.int v4), .val (.int v8), .val (.int v10), .val (.int v14), .unset] [(.int v16)])) _
        refine XS.iconst X122.here hx rfl (hb hby at_97) ?_
        show Steps p.tables e below (T122.setTop (mkF m 98 #[.val (.int p0), .val (.int p1), .val (.int v1), .val (.int v2), .val (.int v3), .val (.int v4), .val (.int v8), .val (.int v10), .val (.int v14), .unset] [(.int (1 : Int32)), (.int v16)])) _
        refine XS.goto X122.here hx rfl (pc0 := 98) (pc' := 102) rfl (hb hby at_98) (by decide) (by decide) ?_
        exact kt
      refine own_arm hgo123 ?_
      exact own_armEnd X122 N122 e122 (by rw [hv18.trans (if_pos hc94_17)])
    · have hgo124 : ∀ t, Steps p.tables e below (T122.setTop (mkF m 102 #[.val (.int p0), .val (.int p1), .val (.int v1), .val (.int v2), .val (.int v3), .val (.int v4), .val (.int v8), .val (.int v10), .val (.int v14), .unset] [(.int (0 : Int32)), (.int v16)])) t → Steps p.tables e below (T122.setTop (mkF m 94 #[.val (.int p0), .val (.int p1), .val (.int v1), .val (.int v2), .val (.int v3), .val (.int v4), .val (.int v8), .val (.int v10), .val (.int v14), .unset] [(.int v2), (.int v1), (.int v16)])) t := by
        intro t kt
        show Steps p.tables e below (T122.setTop (mkF m 94 #[.val (.int p0), .val (.int p1), .val (.int v1), .val (.int v2), .val (.int v3), .val (.int v4), .val (.int v8), .val (.int v10), .val (.int v14), .unset] [(.int v2), (.int v1), (.int v16)])) _
        refine XS.icmpYes X122.here hx rfl (pc0 := 94) (pc' := 101) rfl (hb hby at_94) rfl (feq hc94_17).2 (by decide) (by decide) ?_
        show Steps p.tables e below (T122.setTop (mkF m 101 #[.val (.int p0), .val (.int p1), .val (.int v1), .val (.int v2), .val (.int v3), .val (.int v4), .val (.int v8), .val (.int v10), .val (.int v14), .unset] [(.int v16)])) _
        refine XS.iconst X122.here hx rfl (hb hby at_101) ?_
        exact kt
      refine own_arm hgo124 ?_
      exact own_armEnd X122 N122 e122 (by rw [hv18.trans (if_neg hc94_17)]))
  obtain ⟨v20, hv20⟩ : ∃ z : Int32, z = (if v16 = v18 then (1 : Int32) else (0 : Int32)) := ⟨_, rfl⟩
  obtain ⟨T128, lc128, X128, N128, e128, st128⟩ := own_mrg (n0 := n0) (h := h0) (g := (mkF m 102 #[.val (.int p0), .val (.int p1), .val (.int v1), .val (.int v2), .val (.int v3), .val (.int v4), .val (.int v8), .val (.int v10), .val (.int v14), .unset] [(.int v18), (.int v16)])) (g' := (mkF m 110 #[.val (.int p0), .val (.int p1), .val (.int v1), .val (.int v2), .val (.int v3), .val (.int v4), .val (.int v8), .val (.int v10), .val (.int v14), .unset] [(.int v20)])) X125 (by
    by_cases hc102_19 : v16 = v18
    · have hgo126 : ∀ t, Steps p.tables e below (T125.setTop (mkF m 110 #[.val (.int p0), .val (.int p1), .val (.int v1), .val (.int v2), .val (.int v3), .val (.int v4), .val (.int v8), .val (.int v10), .val (.int v14), .unset] [(.int (1 : Int32))])) t → Steps p.tables e below (T125.setTop (mkF m 102 #[.val (.int p0), .val (.int p1), .val (.int v1), .val (.int v2), .val (.int v3), .val (.int v4), .val (.int v8), .val (.int v10), .val (.int v14), .unset] [(.int v18), (.int v16)])) t := by
        intro t kt
        show Steps p.tables e below (T125.setTop (mkF m 102 #[.val (.int p0), .val (.int p1), .val (.int v1), .val (.int v2), .val (.int v3), .val (.int v4), .val (.int v8), .val (.int v10), .val (.int v14), .unset] [(.int v18), (.int v16)])) _
        refine XS.icmpNo X125.here hx rfl (hb hby at_102) rfl (teq hc102_19).2 ?_
        show Steps p.tables e below (T125.setTop (mkF m 105 #[.val (.int p0), .val (.int p1), .val (.int v1), .val (.int v2), .val (.int v3), .val (.int v4), .val (.int v8), .val (.int v10), .val (.int v14), .unset] [])) _
        refine XS.iconst X125.here hx rfl (hb hby at_105) ?_
        show Steps p.tables e below (T125.setTop (mkF m 106 #[.val (.int p0), .val (.int p1), .val (.int v1), .val (.int v2), .val (.int v3), .val (.int v4), .val (.int v8), .val (.int v10), .val (.int v14), .unset] [(.int (1 : Int32))])) _
        refine XS.goto X125.here hx rfl (pc0 := 106) (pc' := 110) rfl (hb hby at_106) (by decide) (by decide) ?_
        exact kt
      refine own_arm hgo126 ?_
      exact own_armEnd X125 N125 e125 (by rw [hv20.trans (if_pos hc102_19)])
    · have hgo127 : ∀ t, Steps p.tables e below (T125.setTop (mkF m 110 #[.val (.int p0), .val (.int p1), .val (.int v1), .val (.int v2), .val (.int v3), .val (.int v4), .val (.int v8), .val (.int v10), .val (.int v14), .unset] [(.int (0 : Int32))])) t → Steps p.tables e below (T125.setTop (mkF m 102 #[.val (.int p0), .val (.int p1), .val (.int v1), .val (.int v2), .val (.int v3), .val (.int v4), .val (.int v8), .val (.int v10), .val (.int v14), .unset] [(.int v18), (.int v16)])) t := by
        intro t kt
        show Steps p.tables e below (T125.setTop (mkF m 102 #[.val (.int p0), .val (.int p1), .val (.int v1), .val (.int v2), .val (.int v3), .val (.int v4), .val (.int v8), .val (.int v10), .val (.int v14), .unset] [(.int v18), (.int v16)])) _
        refine XS.icmpYes X125.here hx rfl (pc0 := 102) (pc' := 109) rfl (hb hby at_102) rfl (feq hc102_19).2 (by decide) (by decide) ?_
        show Steps p.tables e below (T125.setTop (mkF m 109 #[.val (.int p0), .val (.int p1), .val (.int v1), .val (.int v2), .val (.int v3), .val (.int v4), .val (.int v8), .val (.int v10), .val (.int v14), .unset] [])) _
        refine XS.iconst X125.here hx rfl (hb hby at_109) ?_
        exact kt
      refine own_arm hgo127 ?_
      exact own_armEnd X125 N125 e125 (by rw [hv20.trans (if_neg hc102_19)]))
  obtain ⟨v25, hv25⟩ : ∃ z : Int32, z = (if v20 = (0 : Int32) then (0 : Int32) else (1 : Int32)) := ⟨_, rfl⟩
  obtain ⟨v26, hv26⟩ : ∃ z : Int32, z = (if v14 = (0 : Int32) then (0 : Int32) else v25) := ⟨_, rfl⟩
  obtain ⟨v27, hv27⟩ : ∃ z : Int32, z = (if v10 = (0 : Int32) then (0 : Int32) else v26) := ⟨_, rfl⟩
  obtain ⟨v28, hv28⟩ : ∃ z : Int32, z = (if v8 = (0 : Int32) then (0 : Int32) else v27) := ⟨_, rfl⟩
  obtain ⟨T140, lc140, X140, N140, e140, st140⟩ := own_mrg (n0 := n0) (h := h0) (g := (mkF m 114 #[.val (.int p0), .val (.int p1), .val (.int v1), .val (.int v2), .val (.int v3), .val (.int v4), .val (.int v8), .val (.int v10), .val (.int v14), .val (.int v20)] [(.int v8)])) (g' := (mkF m 137 #[.val (.int p0), .val (.int p1), .val (.int v1), .val (.int v2), .val (.int v3), .val (.int v4), .val (.int v8), .val (.int v10), .val (.int v14), .val (.int v20)] [(.int v28)])) X128 (by
    by_cases hc114_21 : v8 = (0 : Int32)
    · have hgo129 : ∀ t, Steps p.tables e below (T128.setTop (mkF m 137 #[.val (.int p0), .val (.int p1), .val (.int v1), .val (.int v2), .val (.int v3), .val (.int v4), .val (.int v8), .val (.int v10), .val (.int v14), .val (.int v20)] [(.int (0 : Int32))])) t → Steps p.tables e below (T128.setTop (mkF m 114 #[.val (.int p0), .val (.int p1), .val (.int v1), .val (.int v2), .val (.int v3), .val (.int v4), .val (.int v8), .val (.int v10), .val (.int v14), .val (.int v20)] [(.int v8)])) t := by
        intro t kt
        show Steps p.tables e below (T128.setTop (mkF m 114 #[.val (.int p0), .val (.int p1), .val (.int v1), .val (.int v2), .val (.int v3), .val (.int v4), .val (.int v8), .val (.int v10), .val (.int v14), .val (.int v20)] [(.int v8)])) _
        refine XS.ifYes X128.here hx rfl (pc0 := 114) (pc' := 136) rfl (hb hby at_114) rfl ((if0 _ _).trans (teq hc114_21).1) (by decide) (by decide) ?_
        show Steps p.tables e below (T128.setTop (mkF m 136 #[.val (.int p0), .val (.int p1), .val (.int v1), .val (.int v2), .val (.int v3), .val (.int v4), .val (.int v8), .val (.int v10), .val (.int v14), .val (.int v20)] [])) _
        refine XS.iconst X128.here hx rfl (hb hby at_136) ?_
        exact kt
      refine own_arm hgo129 ?_
      exact own_armEnd X128 N128 e128 (by rw [hv28.trans (if_pos hc114_21)])
    · obtain ⟨T138, lc138, X138, N138, e138, st138⟩ := own_mrg (n0 := n0) (h := h0) (g := (mkF m 119 #[.val (.int p0), .val (.int p1), .val (.int v1), .val (.int v2), .val (.int v3), .val (.int v4), .val (.int v8), .val (.int v10), .val (.int v14), .val (.int v20)] [(.int v10)])) (g' := (mkF m 137 #[.val (.int p0), .val (.int p1), .val (.int v1), .val (.int v2), .val (.int v3), .val (.int v4), .val (.int v8), .val (.int v10), .val (.int v14), .val (.int v20)] [(.int v27)])) X128 (by
        by_cases hc119_22 : v10 = (0 : Int32)
        · have hgo130 : ∀ t, Steps p.tables e below (T128.setTop (mkF m 137 #[.val (.int p0), .val (.int p1), .val (.int v1), .val (.int v2), .val (.int v3), .val (.int v4), .val (.int v8), .val (.int v10), .val (.int v14), .val (.int v20)] [(.int (0 : Int32))])) t → Steps p.tables e below (T128.setTop (mkF m 119 #[.val (.int p0), .val (.int p1), .val (.int v1), .val (.int v2), .val (.int v3), .val (.int v4), .val (.int v8), .val (.int v10), .val (.int v14), .val (.int v20)] [(.int v10)])) t := by
            intro t kt
            show Steps p.tables e below (T128.setTop (mkF m 119 #[.val (.int p0), .val (.int p1), .val (.int v1), .val (.int v2), .val (.int v3), .val (.int v4), .val (.int v8), .val (.int v10), .val (.int v14), .val (.int v20)] [(.int v10)])) _
            refine XS.ifYes X128.here hx rfl (pc0 := 119) (pc' := 136) rfl (hb hby at_119) rfl ((if0 _ _).trans (teq hc119_22).1) (by decide) (by decide) ?_
            show Steps p.tables e below (T128.setTop (mkF m 136 #[.val (.int p0), .val (.int p1), .val (.int v1), .val (.int v2), .val (.int v3), .val (.int v4), .val (.int v8), .val (.int v10), .val (.int v14), .val (.int v20)] [])) _
            refine XS.iconst X128.here hx rfl (hb hby at_136) ?_
            exact kt
          refine own_arm hgo130 ?_
          exact own_armEnd X128 N128 e128 (by rw [hv27.trans (if_pos hc119_22)])
        · obtain ⟨T136, lc136, X136, N136, e136, st136⟩ := own_mrg (n0 := n0) (h := h0) (g := (mkF m 124 #[.val (.int p0), .val (.int p1), .val (.int v1), .val (.int v2), .val (.int v3), .val (.int v4), .val (.int v8), .val (.int v10), .val (.int v14), .val (.int v20)] [(.int v14)])) (g' := (mkF m 137 #[.val (.int p0), .val (.int p1), .val (.int v1), .val (.int v2), .val (.int v3), .val (.int v4), .val (.int v8), .val (.int v10), .val (.int v14), .val (.int v20)] [(.int v26)])) X128 (by
            by_cases hc124_23 : v14 = (0 : Int32)
            · have hgo131 : ∀ t, Steps p.tables e below (T128.setTop (mkF m 137 #[.val (.int p0), .val (.int p1), .val (.int v1), .val (.int v2), .val (.int v3), .val (.int v4), .val (.int v8), .val (.int v10), .val (.int v14), .val (.int v20)] [(.int (0 : Int32))])) t → Steps p.tables e below (T128.setTop (mkF m 124 #[.val (.int p0), .val (.int p1), .val (.int v1), .val (.int v2), .val (.int v3), .val (.int v4), .val (.int v8), .val (.int v10), .val (.int v14), .val (.int v20)] [(.int v14)])) t := by
                intro t kt
                show Steps p.tables e below (T128.setTop (mkF m 124 #[.val (.int p0), .val (.int p1), .val (.int v1), .val (.int v2), .val (.int v3), .val (.int v4), .val (.int v8), .val (.int v10), .val (.int v14), .val (.int v20)] [(.int v14)])) _
                refine XS.ifYes X128.here hx rfl (pc0 := 124) (pc' := 136) rfl (hb hby at_124) rfl ((if0 _ _).trans (teq hc124_23).1) (by decide) (by decide) ?_
                show Steps p.tables e below (T128.setTop (mkF m 136 #[.val (.int p0), .val (.int p1), .val (.int v1), .val (.int v2), .val (.int v3), .val (.int v4), .val (.int v8), .val (.int v10), .val (.int v14), .val (.int v20)] [])) _
                refine XS.iconst X128.here hx rfl (hb hby at_136) ?_
                exact kt
              refine own_arm hgo131 ?_
              exact own_armEnd X128 N128 e128 (by rw [hv26.trans (if_pos hc124_23)])
            · obtain ⟨T134, lc134, X134, N134, e134, st134⟩ := own_mrg (n0 := n0) (h := h0) (g := (mkF m 129 #[.val (.int p0), .val (.int p1), .val (.int v1), .val (.int v2), .val (.int v3), .val (.int v4), .val (.int v8), .val (.int v10), .val (.int v14), .val (.int v20)] [(.int v20)])) (g' := (mkF m 137 #[.val (.int p0), .val (.int p1), .val (.int v1), .val (.int v2), .val (.int v3), .val (.int v4), .val (.int v8), .val (.int v10), .val (.int v14), .val (.int v20)] [(.int v25)])) X128 (by
                by_cases hc129_24 : v20 = (0 : Int32)
                · have hgo132 : ∀ t, Steps p.tables e below (T128.setTop (mkF m 137 #[.val (.int p0), .val (.int p1), .val (.int v1), .val (.int v2), .val (.int v3), .val (.int v4), .val (.int v8), .val (.int v10), .val (.int v14), .val (.int v20)] [(.int (0 : Int32))])) t → Steps p.tables e below (T128.setTop (mkF m 129 #[.val (.int p0), .val (.int p1), .val (.int v1), .val (.int v2), .val (.int v3), .val (.int v4), .val (.int v8), .val (.int v10), .val (.int v14), .val (.int v20)] [(.int v20)])) t := by
                    intro t kt
                    show Steps p.tables e below (T128.setTop (mkF m 129 #[.val (.int p0), .val (.int p1), .val (.int v1), .val (.int v2), .val (.int v3), .val (.int v4), .val (.int v8), .val (.int v10), .val (.int v14), .val (.int v20)] [(.int v20)])) _
                    refine XS.ifYes X128.here hx rfl (pc0 := 129) (pc' := 136) rfl (hb hby at_129) rfl ((if0 _ _).trans (teq hc129_24).1) (by decide) (by decide) ?_
                    show Steps p.tables e below (T128.setTop (mkF m 136 #[.val (.int p0), .val (.int p1), .val (.int v1), .val (.int v2), .val (.int v3), .val (.int v4), .val (.int v8), .val (.int v10), .val (.int v14), .val (.int v20)] [])) _
                    refine XS.iconst X128.here hx rfl (hb hby at_136) ?_
                    exact kt
                  refine own_arm hgo132 ?_
                  exact own_armEnd X128 N128 e128 (by rw [hv25.trans (if_pos hc129_24)])
                · have hgo133 : ∀ t, Steps p.tables e below (T128.setTop (mkF m 137 #[.val (.int p0), .val (.int p1), .val (.int v1), .val (.int v2), .val (.int v3), .val (.int v4), .val (.int v8), .val (.int v10), .val (.int v14), .val (.int v20)] [(.int (1 : Int32))])) t → Steps p.tables e below (T128.setTop (mkF m 129 #[.val (.int p0), .val (.int p1), .val (.int v1), .val (.int v2), .val (.int v3), .val (.int v4), .val (.int v8), .val (.int v10), .val (.int v14), .val (.int v20)] [(.int v20)])) t := by
                    intro t kt
                    show Steps p.tables e below (T128.setTop (mkF m 129 #[.val (.int p0), .val (.int p1), .val (.int v1), .val (.int v2), .val (.int v3), .val (.int v4), .val (.int v8), .val (.int v10), .val (.int v14), .val (.int v20)] [(.int v20)])) _
                    refine XS.ifNo X128.here hx rfl (hb hby at_129) rfl ((if0 _ _).trans (feq hc129_24).1) ?_
                    show Steps p.tables e below (T128.setTop (mkF m 132 #[.val (.int p0), .val (.int p1), .val (.int v1), .val (.int v2), .val (.int v3), .val (.int v4), .val (.int v8), .val (.int v10), .val (.int v14), .val (.int v20)] [])) _
                    refine XS.iconst X128.here hx rfl (hb hby at_132) ?_
                    show Steps p.tables e below (T128.setTop (mkF m 133 #[.val (.int p0), .val (.int p1), .val (.int v1), .val (.int v2), .val (.int v3), .val (.int v4), .val (.int v8), .val (.int v10), .val (.int v14), .val (.int v20)] [(.int (1 : Int32))])) _
                    refine XS.goto X128.here hx rfl (pc0 := 133) (pc' := 137) rfl (hb hby at_133) (by decide) (by decide) ?_
                    exact kt
                  refine own_arm hgo133 ?_
                  exact own_armEnd X128 N128 e128 (by rw [hv25.trans (if_neg hc129_24)]))
              have hgo135 : ∀ t, Steps p.tables e below (T134.setTop (mkF m 137 #[.val (.int p0), .val (.int p1), .val (.int v1), .val (.int v2), .val (.int v3), .val (.int v4), .val (.int v8), .val (.int v10), .val (.int v14), .val (.int v20)] [(.int v25)])) t → Steps p.tables e below (T128.setTop (mkF m 124 #[.val (.int p0), .val (.int p1), .val (.int v1), .val (.int v2), .val (.int v3), .val (.int v4), .val (.int v8), .val (.int v10), .val (.int v14), .val (.int v20)] [(.int v14)])) t := by
                intro t kt
                show Steps p.tables e below (T128.setTop (mkF m 124 #[.val (.int p0), .val (.int p1), .val (.int v1), .val (.int v2), .val (.int v3), .val (.int v4), .val (.int v8), .val (.int v10), .val (.int v14), .val (.int v20)] [(.int v14)])) _
                refine XS.ifNo X128.here hx rfl (hb hby at_124) rfl ((if0 _ _).trans (feq hc124_23).1) ?_
                show Steps p.tables e below (T128.setTop (mkF m 127 #[.val (.int p0), .val (.int p1), .val (.int v1), .val (.int v2), .val (.int v3), .val (.int v4), .val (.int v8), .val (.int v10), .val (.int v14), .val (.int v20)] [])) _
                refine XS.iload X128.here hx rfl (hb hby at_127) rfl ?_
                show Steps p.tables e below (T128.setTop (mkF m 129 #[.val (.int p0), .val (.int p1), .val (.int v1), .val (.int v2), .val (.int v3), .val (.int v4), .val (.int v8), .val (.int v10), .val (.int v14), .val (.int v20)] [(.int v20)])) _
                refine st134 _ ?_
                exact kt
              refine own_arm hgo135 ?_
              exact own_armEnd X134 N134 e134 (by rw [hv26.trans (if_neg hc124_23)]))
          have hgo137 : ∀ t, Steps p.tables e below (T136.setTop (mkF m 137 #[.val (.int p0), .val (.int p1), .val (.int v1), .val (.int v2), .val (.int v3), .val (.int v4), .val (.int v8), .val (.int v10), .val (.int v14), .val (.int v20)] [(.int v26)])) t → Steps p.tables e below (T128.setTop (mkF m 119 #[.val (.int p0), .val (.int p1), .val (.int v1), .val (.int v2), .val (.int v3), .val (.int v4), .val (.int v8), .val (.int v10), .val (.int v14), .val (.int v20)] [(.int v10)])) t := by
            intro t kt
            show Steps p.tables e below (T128.setTop (mkF m 119 #[.val (.int p0), .val (.int p1), .val (.int v1), .val (.int v2), .val (.int v3), .val (.int v4), .val (.int v8), .val (.int v10), .val (.int v14), .val (.int v20)] [(.int v10)])) _
            refine XS.ifNo X128.here hx rfl (hb hby at_119) rfl ((if0 _ _).trans (feq hc119_22).1) ?_
            show Steps p.tables e below (T128.setTop (mkF m 122 #[.val (.int p0), .val (.int p1), .val (.int v1), .val (.int v2), .val (.int v3), .val (.int v4), .val (.int v8), .val (.int v10), .val (.int v14), .val (.int v20)] [])) _
            refine XS.iload X128.here hx rfl (hb hby at_122) rfl ?_
            show Steps p.tables e below (T128.setTop (mkF m 124 #[.val (.int p0), .val (.int p1), .val (.int v1), .val (.int v2), .val (.int v3), .val (.int v4), .val (.int v8), .val (.int v10), .val (.int v14), .val (.int v20)] [(.int v14)])) _
            refine st136 _ ?_
            exact kt
          refine own_arm hgo137 ?_
          exact own_armEnd X136 N136 e136 (by rw [hv27.trans (if_neg hc119_22)]))
      have hgo139 : ∀ t, Steps p.tables e below (T138.setTop (mkF m 137 #[.val (.int p0), .val (.int p1), .val (.int v1), .val (.int v2), .val (.int v3), .val (.int v4), .val (.int v8), .val (.int v10), .val (.int v14), .val (.int v20)] [(.int v27)])) t → Steps p.tables e below (T128.setTop (mkF m 114 #[.val (.int p0), .val (.int p1), .val (.int v1), .val (.int v2), .val (.int v3), .val (.int v4), .val (.int v8), .val (.int v10), .val (.int v14), .val (.int v20)] [(.int v8)])) t := by
        intro t kt
        show Steps p.tables e below (T128.setTop (mkF m 114 #[.val (.int p0), .val (.int p1), .val (.int v1), .val (.int v2), .val (.int v3), .val (.int v4), .val (.int v8), .val (.int v10), .val (.int v14), .val (.int v20)] [(.int v8)])) _
        refine XS.ifNo X128.here hx rfl (hb hby at_114) rfl ((if0 _ _).trans (feq hc114_21).1) ?_
        show Steps p.tables e below (T128.setTop (mkF m 117 #[.val (.int p0), .val (.int p1), .val (.int v1), .val (.int v2), .val (.int v3), .val (.int v4), .val (.int v8), .val (.int v10), .val (.int v14), .val (.int v20)] [])) _
        refine XS.iload X128.here hx rfl (hb hby at_117) rfl ?_
        show Steps p.tables e below (T128.setTop (mkF m 119 #[.val (.int p0), .val (.int p1), .val (.int v1), .val (.int v2), .val (.int v3), .val (.int v4), .val (.int v8), .val (.int v10), .val (.int v14), .val (.int v20)] [(.int v10)])) _
        refine st138 _ ?_
        exact kt
      refine own_arm hgo139 ?_
      exact own_armEnd X138 N138 e138 (by rw [hv28.trans (if_neg hc114_21)]))
  have hgo141 : ∀ t, Steps p.tables e below (T140.setTop (mkF m 137 #[.val (.int p0), .val (.int p1), .val (.int v1), .val (.int v2), .val (.int v3), .val (.int v4), .val (.int v8), .val (.int v10), .val (.int v14), .val (.int v20)] [(.int v28)])) t → Steps p.tables e below (s₁.setTop (mkF m 0 #[.val (.int p0), .val (.int p1), .unset, .unset, .unset, .unset, .unset, .unset, .unset, .unset] [])) t := by
    intro t kt
    show Steps p.tables e below (s₁.setTop (mkF m 0 #[.val (.int p0), .val (.int p1), .unset, .unset, .unset, .unset, .unset, .unset, .unset, .unset] [])) _
    refine XS.iloadN X0.here hx rfl (hb hby at_0) rfl ?_
    show Steps p.tables e below (s₁.setTop (mkF m 1 #[.val (.int p0), .val (.int p1), .unset, .unset, .unset, .unset, .unset, .unset, .unset, .unset] [(.int p0)])) _
    refine XS.i2c X0.here hx rfl (hb hby at_1) rfl ?_
    show Steps p.tables e below (s₁.setTop (mkF m 2 #[.val (.int p0), .val (.int p1), .unset, .unset, .unset, .unset, .unset, .unset, .unset, .unset] [(.int (p0.toUInt32.toUInt16.toUInt32.toInt32))])) _
    rw [← hv1]
    show Steps p.tables e below (s₁.setTop (mkF m 2 #[.val (.int p0), .val (.int p1), .unset, .unset, .unset, .unset, .unset, .unset, .unset, .unset] [(.int v1)])) _
    refine XS.istoreN X0.here hx rfl (hb hby at_2) rfl (l' := #[.val (.int p0), .val (.int p1), .val (.int v1), .unset, .unset, .unset, .unset, .unset, .unset, .unset]) rfl ?_
    show Steps p.tables e below (s₁.setTop (mkF m 3 #[.val (.int p0), .val (.int p1), .val (.int v1), .unset, .unset, .unset, .unset, .unset, .unset, .unset] [])) _
    refine XS.iloadN X0.here hx rfl (hb hby at_3) rfl ?_
    show Steps p.tables e below (s₁.setTop (mkF m 4 #[.val (.int p0), .val (.int p1), .val (.int v1), .unset, .unset, .unset, .unset, .unset, .unset, .unset] [(.int p1)])) _
    refine XS.i2c X0.here hx rfl (hb hby at_4) rfl ?_
    show Steps p.tables e below (s₁.setTop (mkF m 5 #[.val (.int p0), .val (.int p1), .val (.int v1), .unset, .unset, .unset, .unset, .unset, .unset, .unset] [(.int (p1.toUInt32.toUInt16.toUInt32.toInt32))])) _
    rw [← hv2]
    show Steps p.tables e below (s₁.setTop (mkF m 5 #[.val (.int p0), .val (.int p1), .val (.int v1), .unset, .unset, .unset, .unset, .unset, .unset, .unset] [(.int v2)])) _
    refine XS.istoreN X0.here hx rfl (hb hby at_5) rfl (l' := #[.val (.int p0), .val (.int p1), .val (.int v1), .val (.int v2), .unset, .unset, .unset, .unset, .unset, .unset]) rfl ?_
    show Steps p.tables e below (s₁.setTop (mkF m 6 #[.val (.int p0), .val (.int p1), .val (.int v1), .val (.int v2), .unset, .unset, .unset, .unset, .unset, .unset] [])) _
    refine XS.iloadN X0.here hx rfl (hb hby at_6) rfl ?_
    show Steps p.tables e below (s₁.setTop (mkF m 7 #[.val (.int p0), .val (.int p1), .val (.int v1), .val (.int v2), .unset, .unset, .unset, .unset, .unset, .unset] [(.int v1)])) _
    refine st101 _ ?_
    show Steps p.tables e below (T101.setTop (mkF m 10 #[.val (.int p0), .val (.int p1), .val (.int v1), .val (.int v2), .unset, .unset, .unset, .unset, .unset, .unset] [(.int (own_r1 v1))])) _
    rw [← hv3]
    show Steps p.tables e below (T101.setTop (mkF m 10 #[.val (.int p0), .val (.int p1), .val (.int v1), .val (.int v2), .unset, .unset, .unset, .unset, .unset, .unset] [(.int v3)])) _
    refine XS.istore X101.here hx rfl (hb hby at_10) rfl (l' := #[.val (.int p0), .val (.int p1), .val (.int v1), .val (.int v2), .val (.int v3), .unset, .unset, .unset, .unset, .unset]) rfl ?_
    show Steps p.tables e below (T101.setTop (mkF m 12 #[.val (.int p0), .val (.int p1), .val (.int v1), .val (.int v2), .val (.int v3), .unset, .unset, .unset, .unset, .unset] [])) _
    refine XS.iloadN X101.here hx rfl (hb hby at_12) rfl ?_
    show Steps p.tables e below (T101.setTop (mkF m 13 #[.val (.int p0), .val (.int p1), .val (.int v1), .val (.int v2), .val (.int v3), .unset, .unset, .unset, .unset, .unset] [(.int v2)])) _
    refine st102 _ ?_
    show Steps p.tables e below (T102.setTop (mkF m 16 #[.val (.int p0), .val (.int p1), .val (.int v1), .val (.int v2), .val (.int v3), .unset, .unset, .unset, .unset, .unset] [(.int (own_r1 v2))])) _
    rw [← hv4]
    show Steps p.tables e below (T102.setTop (mkF m 16 #[.val (.int p0), .val (.int p1), .val (.int v1), .val (.int v2), .val (.int v3), .unset, .unset, .unset, .unset, .unset] [(.int v4)])) _
    refine XS.istore X102.here hx rfl (hb hby at_16) rfl (l' := #[.val (.int p0), .val (.int p1), .val (.int v1), .val (.int v2), .val (.int v3), .val (.int v4), .unset, .unset, .unset, .unset]) rfl ?_
    show Steps p.tables e below (T102.setTop (mkF m 18 #[.val (.int p0), .val (.int p1), .val (.int v1), .val (.int v2), .val (.int v3), .val (.int v4), .unset, .unset, .unset, .unset] [])) _
    refine XS.iload X102.here hx rfl (hb hby at_18) rfl ?_
    show Steps p.tables e below (T102.setTop (mkF m 20 #[.val (.int p0), .val (.int p1), .val (.int v1), .val (.int v2), .val (.int v3), .val (.int v4), .unset, .unset, .unset, .unset] [(.int v3)])) _
    refine st108 _ ?_
    show Steps p.tables e below (T108.setTop (mkF m 35 #[.val (.int p0), .val (.int p1), .val (.int v1), .val (.int v2), .val (.int v3), .val (.int v4), .unset, .unset, .unset, .unset] [(.int v8)])) _
    refine XS.istore X108.here hx rfl (hb hby at_35) rfl (l' := #[.val (.int p0), .val (.int p1), .val (.int v1), .val (.int v2), .val (.int v3), .val (.int v4), .val (.int v8), .unset, .unset, .unset]) rfl ?_
    show Steps p.tables e below (T108.setTop (mkF m 37 #[.val (.int p0), .val (.int p1), .val (.int v1), .val (.int v2), .val (.int v3), .val (.int v4), .val (.int v8), .unset, .unset, .unset] [])) _
    refine XS.iload X108.here hx rfl (hb hby at_37) rfl ?_
    show Steps p.tables e below (T108.setTop (mkF m 39 #[.val (.int p0), .val (.int p1), .val (.int v1), .val (.int v2), .val (.int v3), .val (.int v4), .val (.int v8), .unset, .unset, .unset] [(.int v3)])) _
    refine XS.iloadN X108.here hx rfl (hb hby at_39) rfl ?_
    show Steps p.tables e below (T108.setTop (mkF m 40 #[.val (.int p0), .val (.int p1), .val (.int v1), .val (.int v2), .val (.int v3), .val (.int v4), .val (.int v8), .unset, .unset, .unset] [(.int v1), (.int v3)])) _
    refine st109 _ ?_
    show Steps p.tables e below (T109.setTop (mkF m 43 #[.val (.int p0), .val (.int p1), .val (.int v1), .val (.int v2), .val (.int v3), .val (.int v4), .val (.int v8), .unset, .unset, .unset] [(.int (own_r2 v1)), (.int v3)])) _
    refine st112 _ ?_
    show Steps p.tables e below (T112.setTop (mkF m 51 #[.val (.int p0), .val (.int p1), .val (.int v1), .val (.int v2), .val (.int v3), .val (.int v4), .val (.int v8), .unset, .unset, .unset] [(.int v10)])) _
    refine XS.istore X112.here hx rfl (hb hby at_51) rfl (l' := #[.val (.int p0), .val (.int p1), .val (.int v1), .val (.int v2), .val (.int v3), .val (.int v4), .val (.int v8), .val (.int v10), .unset, .unset]) rfl ?_
    show Steps p.tables e below (T112.setTop (mkF m 53 #[.val (.int p0), .val (.int p1), .val (.int v1), .val (.int v2), .val (.int v3), .val (.int v4), .val (.int v8), .val (.int v10), .unset, .unset] [])) _
    refine XS.iload X112.here hx rfl (hb hby at_53) rfl ?_
    show Steps p.tables e below (T112.setTop (mkF m 55 #[.val (.int p0), .val (.int p1), .val (.int v1), .val (.int v2), .val (.int v3), .val (.int v4), .val (.int v8), .val (.int v10), .unset, .unset] [(.int v3)])) _
    refine XS.iload X112.here hx rfl (hb hby at_55) rfl ?_
    show Steps p.tables e below (T112.setTop (mkF m 57 #[.val (.int p0), .val (.int p1), .val (.int v1), .val (.int v2), .val (.int v3), .val (.int v4), .val (.int v8), .val (.int v10), .unset, .unset] [(.int v4), (.int v3)])) _
    refine st115 _ ?_
    show Steps p.tables e below (T115.setTop (mkF m 65 #[.val (.int p0), .val (.int p1), .val (.int v1), .val (.int v2), .val (.int v3), .val (.int v4), .val (.int v8), .val (.int v10), .unset, .unset] [(.int v12)])) _
    refine XS.iloadN X115.here hx rfl (hb hby at_65) rfl ?_
    show Steps p.tables e below (T115.setTop (mkF m 66 #[.val (.int p0), .val (.int p1), .val (.int v1), .val (.int v2), .val (.int v3), .val (.int v4), .val (.int v8), .val (.int v10), .unset, .unset] [(.int v1), (.int v12)])) _
    refine XS.iloadN X115.here hx rfl (hb hby at_66) rfl ?_
    show Steps p.tables e below (T115.setTop (mkF m 67 #[.val (.int p0), .val (.int p1), .val (.int v1), .val (.int v2), .val (.int v3), .val (.int v4), .val (.int v8), .val (.int v10), .unset, .unset] [(.int v2), (.int v1), (.int v12)])) _
    refine st116 _ ?_
    show Steps p.tables e below (T116.setTop (mkF m 70 #[.val (.int p0), .val (.int p1), .val (.int v1), .val (.int v2), .val (.int v3), .val (.int v4), .val (.int v8), .val (.int v10), .unset, .unset] [(.int (own_r4 v1 v2)), (.int v12)])) _
    refine st119 _ ?_
    show Steps p.tables e below (T119.setTop (mkF m 78 #[.val (.int p0), .val (.int p1), .val (.int v1), .val (.int v2), .val (.int v3), .val (.int v4), .val (.int v8), .val (.int v10), .unset, .unset] [(.int v14)])) _
    refine XS.istore X119.here hx rfl (hb hby at_78) rfl (l' := #[.val (.int p0), .val (.int p1), .val (.int v1), .val (.int v2), .val (.int v3), .val (.int v4), .val (.int v8), .val (.int v10), .val (.int v14), .unset]) rfl ?_
    show Steps p.tables e below (T119.setTop (mkF m 80 #[.val (.int p0), .val (.int p1), .val (.int v1), .val (.int v2), .val (.int v3), .val (.int v4), .val (.int v8), .val (.int v10), .val (.int v14), .unset] [])) _
    refine XS.iload X119.here hx rfl (hb hby at_80) rfl ?_
    show Steps p.tables e below (T119.setTop (mkF m 82 #[.val (.int p0), .val (.int p1), .val (.int v1), .val (.int v2), .val (.int v3), .val (.int v4), .val (.int v8), .val (.int v10), .val (.int v14), .unset] [(.int v3)])) _
    refine XS.iload X119.here hx rfl (hb hby at_82) rfl ?_
    show Steps p.tables e below (T119.setTop (mkF m 84 #[.val (.int p0), .val (.int p1), .val (.int v1), .val (.int v2), .val (.int v3), .val (.int v4), .val (.int v8), .val (.int v10), .val (.int v14), .unset] [(.int v4), (.int v3)])) _
    refine st122 _ ?_
    show Steps p.tables e below (T122.setTop (mkF m 92 #[.val (.int p0), .val (.int p1), .val (.int v1), .val (.int v2), .val (.int v3), .val (.int v4), .val (.int v8), .val (.int v10), .val (.int v14), .unset] [(.int v16)])) _
    refine XS.iloadN X122.here hx rfl (hb hby at_92) rfl ?_
    show Steps p.tables e below (T122.setTop (mkF m 93 #[.val (.int p0), .val (.int p1), .val (.int v1), .val (.int v2), .val (.int v3), .val (.int v4), .val (.int v8), .val (.int v10), .val (.int v14), .unset] [(.int v1), (.int v16)])) _
    refine XS.iloadN X122.here hx rfl (hb hby at_93) rfl ?_
    show Steps p.tables e below (T122.setTop (mkF m 94 #[.val (.int p0), .val (.int p1), .val (.int v1), .val (.int v2), .val (.int v3), .val (.int v4), .val (.int v8), .val (.int v10), .val (.int v14), .unset] [(.int v2), (.int v1), (.int v16)])) _
    refine st125 _ ?_
    show Steps p.tables e below (T125.setTop (mkF m 102 #[.val (.int p0), .val (.int p1), .val (.int v1), .val (.int v2), .val (.int v3), .val (.int v4), .val (.int v8), .val (.int v10), .val (.int v14), .unset] [(.int v18), (.int v16)])) _
    refine st128 _ ?_
    show Steps p.tables e below (T128.setTop (mkF m 110 #[.val (.int p0), .val (.int p1), .val (.int v1), .val (.int v2), .val (.int v3), .val (.int v4), .val (.int v8), .val (.int v10), .val (.int v14), .unset] [(.int v20)])) _
    refine XS.istore X128.here hx rfl (hb hby at_110) rfl (l' := #[.val (.int p0), .val (.int p1), .val (.int v1), .val (.int v2), .val (.int v3), .val (.int v4), .val (.int v8), .val (.int v10), .val (.int v14), .val (.int v20)]) rfl ?_
    show Steps p.tables e below (T128.setTop (mkF m 112 #[.val (.int p0), .val (.int p1), .val (.int v1), .val (.int v2), .val (.int v3), .val (.int v4), .val (.int v8), .val (.int v10), .val (.int v14), .val (.int v20)] [])) _
    refine XS.iload X128.here hx rfl (hb hby at_112) rfl ?_
    show Steps p.tables e below (T128.setTop (mkF m 114 #[.val (.int p0), .val (.int p1), .val (.int v1), .val (.int v2), .val (.int v3), .val (.int v4), .val (.int v8), .val (.int v10), .val (.int v14), .val (.int v20)] [(.int v8)])) _
    refine st140 _ ?_
    exact kt
  refine own_go hgo141 ?_
  have hz142 : v28 = 1 := own_leaf0 hv1 hv2 hv3 hv4 hv7 hv8 hv10 hv12 hv14 hv16 hv18 hv20 hv25 hv26 hv27 hv28
  exact own_retZ X140 hx Bd.returns Bd.notSynchronized (hb hby at_137) (by decide) (by decide) (Or.inr hz142) ⟨by rw [hz142], N140⟩
set_option maxRecDepth 65536 in
set_option maxHeartbeats 40000000 in
theorem comes_1 {Post : Tables → Env → Array Value → State → Outcome → State → Prop} (hpost : ∀ tb e args s v u, (limb_1_1.after args s (.returned v) u = true ∧ limb_1_2.after args s (.returned v) u = true ∧ True) → FrameEnd s (.returned v) u (Jvm.fieldLocs frame_1_writes args s ++ Jvm.arrayLocs frame_1_arrays args s ++ Jvm.staticLocs frame_1_statics s) 0 0 → Post tb e args s (.returned v) u) :
    ArmFor flags0 classFile x code maxLocals ret World_1 tables_1 room_1 Calls_1 rest_1 Pre_1 Post := by
  intro l hfl _ _ p e ha hc hk s m args below hf hA hF happ hP
  obtain ⟨hcalls, hrest, hpre⟩ := hP
  obtain ⟨-, -, -, hnamed, -, -, -, hat⟩ := (Spec.applies_iff hf).mp happ
  obtain ⟨hg, hn⟩ := and_e (Cond.before_iff.mp (show (Jvm.Cond.and given_1 narrow_1).before args s = true from hpre))
  obtain ⟨gg1, gg2⟩ := and_e hg
  obtain ⟨gg3, gg4⟩ := and_e gg2
  obtain ⟨w0, w1, rfl⟩ : ∃ w0 w1 : Value, args = #[w0, w1] := by
    have hs : args.size = 2 := by simpa [Cond.value, given_1] using gg1
    obtain ⟨L⟩ := args
    match L, hs with
    | [w0, w1], _ => exact ⟨w0, w1, rfl⟩
  have hw := fun d (hd : d ∈ tables_1) => atoms_spec (ws := Jvm.Cond.code x code maxLocals ret :: tables_1) hat d (List.mem_cons_of_mem _ hd)
  have hfit : Fit s := fun {y c} hc i hi => by
    obtain ⟨ha, rfl⟩ := Array.getElem?_eq_some_iff.mp hc
    have q := List.all_eq_true.mp ((Array.all_eq_true_iff_forall_mem.mp hF) _ (Array.getElem_mem ha)) i (List.mem_range.mpr hi)
    simpa [Array.getElem?_eq_getElem hi] using q
  obtain ⟨i0, ei0⟩ := is_v gg3
  obtain rfl : w0 = (.int i0) := Option.some.inj ei0
  obtain ⟨i1, ei1⟩ := is_v gg4
  obtain rfl : w1 = (.int i1) := Option.some.inj ei1
  obtain ⟨n, o, h1, h2, h3, _, L, rfl, ⟨rfl, N⟩, hq⟩ := rm0 l s _ hw tables_1 i0 i1 s.heap s.heap.size (Nat.le_refl _)  p e ha hc hk s m _ below hf ((Spec.applies_iff_loose hf).mp happ).1 ⟨rfl, State.Warmed39.refl s, rfl⟩ trivial
  refine ⟨n, _, h1, h2, h3, hpost _ _ _ _ _ _ ⟨Cond.after_iff.mpr rfl, Cond.after_iff.mpr (eq_i res_at (Term.int_eval (1)) rfl), trivial⟩ ⟨hq.1, hq.2.1, (hq.2.2.sift fun y hy => Or.inr (N y hy)).mono (by decide) (by decide)⟩⟩
theorem main_1_1 : Claimed_1_1 := comes_1 fun _ _ _ _ _ _ h hF => ⟨h.1, hF⟩
theorem main_1_2 : Claimed_1_2 := comes_1 fun _ _ _ _ _ _ h hF => ⟨h.2.1, hF⟩
end Jvm.Pilot.@@N@@
namespace Jvm.Pilot.@@N@@
open Jvm Jvm.ClassFile Sem Op Lib Jvm.Free Jvm.Stand Jvm.Pilot.@@N@@.Jvm.D
/-! MADE BY PROGRAM (witnessworld.py) out of the Statement's table words and the real class files: 9 classes; the members and pool entries that the words name. The judged class is class 1, her method 4. -/
namespace start1
open Jvm.ClassFile
def u (s : String) : CpInfo := .utf8 (stringToUtf16 s)
/-- a pool by its gaps: so many unusable entries, then the entry; so many at the end -/
def gap : Nat → List CpInfo → List CpInfo
  | 0, r => r
  | n + 1, r => .unusable :: gap n r
def poolList (es : List (Nat × CpInfo)) (last : Nat) : List CpInfo := es.foldr (fun e r => gap e.1 (e.2 :: r)) (gap last [])
def pool (es : List (Nat × CpInfo)) (last : Nat) : Array CpInfo := ⟨poolList es last⟩
def fileOf (pool : Array CpInfo) (this : Nat) (attrs : Array Attribute := #[]) (ms : Array MethodInfo := #[]) (fl : Nat := 33) (sup : Nat := 0) (ifs : Array Nat := #[]) (fds : Array FieldInfo := #[]) : ClassFile where
  minorVersion := 0
  majorVersion := 65
  constantPool := pool
  accessFlags := fl
  thisClass := this
  superClass := sup
  interfaces := ifs
  fields := fds
  methods := ms
  attributes := attrs
def plain (name : String) (sup : Option ClassId) : Class where
  name := name
  kind := .ordinary
  loader := none
  accessFlags := 33
  super := sup
  interfaces := #[]
  cf := none
  fields := #[]
  methods := #[]
  instanceTypes := #[]
  staticTypes := #[]
  resolved := #[]
  callSites := []
  init := .initialized
  statics := none
  mirror := none

def pool0 : Array CpInfo := pool [(5, u "<init>"), (0, u "()V"), (1, .class_ 10), (1, u "java/lang/Object")] 113

def k0m0 : Method := { name := "<init>", desc := "()V", sig := { parameters := [], returnType := none }, accessFlags := 1, code := none }
/-- java/lang/Object -/
def k0 : Class := { plain "java/lang/Object" none with
  accessFlags := 33
  interfaces := #[]
  cf := some (fileOf pool0 8 #[] #[{ accessFlags := 1, nameIndex := 5, descriptorIndex := 6, attributes := #[] }] 33 0 #[] #[])
  fields := #[]
  methods := #[k0m0]
  instanceTypes := #[]
  staticTypes := #[]
  resolved := Array.replicate 124 none
  statics := none }

def pool1 : Array CpInfo := pool [(2, .class_ 4), (1, u "java/lang/Object"), (0, u "<init>"), (0, u "()V"), (0, .integer 55296), (0, .integer 57344), (0, .methodref 10 11), (0, .class_ 12), (0, .nameAndType 13 14), (0, u "inducere/Utf8OrderRankPinLaw"), (0, u "group"), (0, u "(C)I"), (0, .integer 63488), (0, .methodref 17 18), (0, .class_ 19), (0, .nameAndType 20 14), (0, u "inducere/Utf8Order"), (0, u "rank"), (0, .integer 65535), (0, .methodref 10 23), (0, .nameAndType 24 14), (0, u "position"), (0, .methodref 10 26), (0, .nameAndType 27 28), (0, u "before"), (0, u "(CC)Z"), (3, u "law"), (0, u "(II)Z")] 2

def k1m0 : Method := { name := "<init>", desc := "()V", sig := { parameters := [], returnType := none }, accessFlags := 2, code := none }
def k1c1 : Code := { maxStack := 2, maxLocals := 1, code := method_2_code, exceptionTable := #[], attributes := #[] }
def k1m1 : Method := { name := "group", desc := "(C)I", sig := { parameters := [.char], returnType := some .int }, accessFlags := 10, code := some k1c1 }
def k1c2 : Code := { maxStack := 3, maxLocals := 2, code := method_3_code, exceptionTable := #[], attributes := #[] }
def k1m2 : Method := { name := "position", desc := "(C)I", sig := { parameters := [.char], returnType := some .int }, accessFlags := 10, code := some k1c2 }
def k1c3 : Code := { maxStack := 2, maxLocals := 4, code := method_4_code, exceptionTable := #[], attributes := #[] }
def k1m3 : Method := { name := "before", desc := "(CC)Z", sig := { parameters := [.char, .char], returnType := some .boolean }, accessFlags := 10, code := some k1c3 }
def k1c4 : Code := { maxStack := 3, maxLocals := 10, code := code, exceptionTable := #[], attributes := #[] }
def k1m4 : Method := { name := "law", desc := "(II)Z", sig := { parameters := [.int, .int], returnType := some .boolean }, accessFlags := 9, code := some k1c4 }
/-- inducere/Utf8OrderRankPinLaw -/
def k1 : Class := { plain "inducere/Utf8OrderRankPinLaw" (some 0) with
  accessFlags := 49
  interfaces := #[]
  cf := some (fileOf pool1 10 #[] #[{ accessFlags := 2, nameIndex := 5, descriptorIndex := 6, attributes := #[] }, { accessFlags := 10, nameIndex := 13, descriptorIndex := 14, attributes := #[] }, { accessFlags := 10, nameIndex := 24, descriptorIndex := 14, attributes := #[] }, { accessFlags := 10, nameIndex := 27, descriptorIndex := 28, attributes := #[] }, { accessFlags := 9, nameIndex := 32, descriptorIndex := 33, attributes := #[] }] 49 2 #[] #[])
  fields := #[]
  methods := #[k1m0, k1m1, k1m2, k1m3, k1m4]
  instanceTypes := #[]
  staticTypes := #[]
  resolved := Array.replicate 36 none
  statics := none }

def pool2 : Array CpInfo := pool [(2, .class_ 4), (1, u "java/lang/Object"), (0, u "<init>"), (0, u "()V"), (17, .class_ 26), (1, u "inducere/Utf8Order"), (0, u "rank"), (0, u "(C)I"), (0, .integer 57344), (2, .integer 55296)] 7

def k2m0 : Method := { name := "<init>", desc := "()V", sig := { parameters := [], returnType := none }, accessFlags := 2, code := none }
def k2c1 : Code := { maxStack := 2, maxLocals := 1, code := prog_91_method_3_code, exceptionTable := #[], attributes := #[] }
def k2m1 : Method := { name := "rank", desc := "(C)I", sig := { parameters := [.char], returnType := some .int }, accessFlags := 8, code := some k2c1 }
/-- inducere/Utf8Order -/
def k2 : Class := { plain "inducere/Utf8Order" (some 0) with
  accessFlags := 48
  interfaces := #[]
  cf := some (fileOf pool2 24 #[] #[{ accessFlags := 2, nameIndex := 5, descriptorIndex := 6, attributes := #[] }, { accessFlags := 8, nameIndex := 27, descriptorIndex := 28, attributes := #[] }] 48 2 #[] #[])
  fields := #[]
  methods := #[k2m0, k2m1]
  instanceTypes := #[]
  staticTypes := #[]
  resolved := Array.replicate 40 none
  statics := none }

def pool3 : Array CpInfo := pool [(1, u "java/lang/Cloneable"), (0, .class_ 1), (0, u "java/lang/Object"), (0, .class_ 3)] 3

/-- java/lang/Cloneable -/
def k3 : Class := { plain "java/lang/Cloneable" (some 0) with
  accessFlags := 1537
  interfaces := #[]
  cf := some (fileOf pool3 2 #[] #[] 1537 4 #[] #[])
  fields := #[]
  methods := #[]
  instanceTypes := #[]
  staticTypes := #[]
  resolved := Array.replicate 8 none
  statics := none }

def pool4 : Array CpInfo := pool [(1, u "java/io/Serializable"), (0, .class_ 1), (0, u "java/lang/Object"), (0, .class_ 3)] 3

/-- java/io/Serializable -/
def k4 : Class := { plain "java/io/Serializable" (some 0) with
  accessFlags := 1537
  interfaces := #[]
  cf := some (fileOf pool4 2 #[] #[] 1537 4 #[] #[])
  fields := #[]
  methods := #[]
  instanceTypes := #[]
  staticTypes := #[]
  resolved := Array.replicate 8 none
  statics := none }

/-- the primitive byte -/
def k5 : Class := { plain "byte" none with kind := .primitive 'B', accessFlags := 0x411 }
/-- [B -/
def k6 : Class := { plain "[B" (some 0) with kind := .array 5 .byte, interfaces := #[3, 4], accessFlags := 1041 }

/-- the primitive int -/
def k7 : Class := { plain "int" none with kind := .primitive 'I', accessFlags := 0x411 }
/-- [I -/
def k8 : Class := { plain "[I" (some 0) with kind := .array 7 .int, interfaces := #[3, 4], accessFlags := 1041 }

def heap : Heap := #[]
def classes : Array Class := #[k0, k1, k2, k3, k4, k5, k6, k7, k8]
def interned : List (Array UInt16 × Addr) := []
def slotsUsed : Nat := 0
def theMethod : MethodId := ⟨1, 4⟩
def args0 : Array Value := #[.int 5, .int 5]
def aboutOver (below : List Frame) : State where
  vm := { classes := classes, interned := interned.toArray }
  heap := heap
  slotsUsed := slotsUsed
  threads := #[{ frames := .invoking theMethod args0 :: below }]
def below0 : List Frame := [.native { method := ⟨0, 0⟩, args := #[] }]
def about1 : State := aboutOver below0
def p0 : Program := .bare "" "" ""
def e0 : Env := launch0.env 0 0 0
theorem w_frames : about1.frames = Frame.invoking theMethod args0 :: below0 := rfl
set_option maxRecDepth 65536 in
theorem w_args : argsFit about1.vm theMethod args0 = true := by decide +kernel
set_option maxRecDepth 65536 in
theorem w_heap : heapFits about1 = true := by decide +kernel
set_option maxRecDepth 65536 in
theorem w_runnable : about1.curStatus? = some .runnable := by decide +kernel
set_option maxRecDepth 65536 in
theorem w_alone : about1.alone = true := by decide +kernel
set_option maxRecDepth 65536 in
theorem w_named : about1.methodNamed? x = some theMethod := by decide +kernel
set_option maxRecDepth 65536 in
theorem w_hears : about1.hears theMethod below0 = true := by decide +kernel
set_option maxRecDepth 65536 in
theorem w_ripe : about1.ripe theMethod args0 below0 = true := by decide +kernel
theorem w_running : about1.status = .running := rfl
set_option maxRecDepth 65536 in
theorem w_room : about1.hasRoom e0.platform room_1 = true :=
  launch0.hasRoom_least _ room_1 (by decide +kernel) (by decide +kernel) (by decide +kernel) (by decide +kernel) (by decide +kernel) (by decide +kernel)
theorem allAtoms_all (ts : List Jvm.Cond) (a : Array Jvm.Value) (st : Jvm.State) : (allAtoms ts).before a st = ts.all (fun c => c.before a st) := by
  induction ts with
  | nil => rfl
  | cons c t ih =>
    show (Jvm.Cond.and c (allAtoms t)).before a st = _
    rw [Jvm.Cond.before_and, ih, List.all_cons]
def words1 : List Jvm.Cond := Jvm.Cond.code x code maxLocals ret :: tables_1
/-- a 'code' word, met by the world's own term for the bytes: nothing is compared byte by byte -/
theorem code_word {y : MethodName} {bytes : ByteArray} {mx : Nat} {rt : Option FieldType} {a : Array Value} {s : State} {m : MethodId} {meth : Method} {c : Code} (h1 : s.methodNamed? y = some m) (h2 : s.vm.method? m = some meth) (h3 : meth.code = some c) (h4 : c.code = bytes)
    (h5 : (c.maxLocals == mx && c.exceptionTable.isEmpty && decide (c.maxStack ≤ mostOperands) && decide (meth.sig.returnType = rt) && !meth.locks && decide (parseMethodDescriptor y.desc = some meth.sig)) = true) : (Jvm.Cond.code y bytes mx rt).before a s = true := by
  simp only [Bool.and_eq_true, beq_iff_eq, Bool.not_eq_true', decide_eq_true_eq] at h5
  obtain ⟨⟨⟨⟨⟨g1, g2⟩, g3⟩, g4⟩, g5⟩, g6⟩ := h5
  simp [Cond.before, Cond.holds, Cond.value, h1, h2, h3, h4, g1, g2, g3, g4, g5, g6]
def isCode : Jvm.Cond → Bool
  | .code _ _ _ _ => true
  | _ => false
theorem all_split {L : List Jvm.Cond} {P : Jvm.Cond → Bool} (h1 : L.all (fun c => isCode c || P c) = true) (h2 : ∀ c ∈ L.filter isCode, P c = true) : L.all P = true := by
  refine List.all_eq_true.mpr fun c hc => ?_
  have h := List.all_eq_true.mp h1 c hc
  rcases Bool.eq_false_or_eq_true (isCode c) with hi | hi
  · exact h2 c (List.mem_filter.mpr ⟨hc, hi⟩)
  · simpa [hi] using h
set_option maxRecDepth 65536 in
theorem w_c0 : (Jvm.Cond.code x code maxLocals ret).before args0 about1 = true := code_word (m := ⟨1, 4⟩) (meth := k1m4) (c := k1c4) (by decide +kernel) rfl rfl rfl (by decide +kernel)
set_option maxRecDepth 65536 in
theorem w_c1 : (Jvm.Cond.code ({ cls := "inducere/Utf8Order", name := "rank", desc := "(C)I" } : Jvm.MethodName) prog_91_method_3_code (1 : Nat) (Option.some Jvm.ClassFile.FieldType.int)).before args0 about1 = true := code_word (m := ⟨2, 1⟩) (meth := k2m1) (c := k2c1) (by decide +kernel) rfl rfl rfl (by decide +kernel)
set_option maxRecDepth 65536 in
theorem w_c2 : (Jvm.Cond.code ({ cls := "inducere/Utf8OrderRankPinLaw", name := "position", desc := "(C)I" } : Jvm.MethodName) method_3_code (2 : Nat) (Option.some Jvm.ClassFile.FieldType.int)).before args0 about1 = true := code_word (m := ⟨1, 2⟩) (meth := k1m2) (c := k1c2) (by decide +kernel) rfl rfl rfl (by decide +kernel)
set_option maxRecDepth 65536 in
theorem w_c3 : (Jvm.Cond.code ({ cls := "inducere/Utf8OrderRankPinLaw", name := "group", desc := "(C)I" } : Jvm.MethodName) method_2_code (1 : Nat) (Option.some Jvm.ClassFile.FieldType.int)).before args0 about1 = true := code_word (m := ⟨1, 1⟩) (meth := k1m1) (c := k1c1) (by decide +kernel) rfl rfl rfl (by decide +kernel)
set_option maxRecDepth 65536 in
theorem w_c4 : (Jvm.Cond.code ({ cls := "inducere/Utf8OrderRankPinLaw", name := "before", desc := "(CC)Z" } : Jvm.MethodName) method_4_code (4 : Nat) (Option.some Jvm.ClassFile.FieldType.boolean)).before args0 about1 = true := code_word (m := ⟨1, 3⟩) (meth := k1m3) (c := k1c3) (by decide +kernel) rfl rfl rfl (by decide +kernel)
def codes1 : List Jvm.Cond := [Jvm.Cond.code x code maxLocals ret, Jvm.Cond.code ({ cls := "inducere/Utf8Order", name := "rank", desc := "(C)I" } : Jvm.MethodName) prog_91_method_3_code (1 : Nat) (Option.some Jvm.ClassFile.FieldType.int), Jvm.Cond.code ({ cls := "inducere/Utf8OrderRankPinLaw", name := "position", desc := "(C)I" } : Jvm.MethodName) method_3_code (2 : Nat) (Option.some Jvm.ClassFile.FieldType.int), Jvm.Cond.code ({ cls := "inducere/Utf8OrderRankPinLaw", name := "group", desc := "(C)I" } : Jvm.MethodName) method_2_code (1 : Nat) (Option.some Jvm.ClassFile.FieldType.int), Jvm.Cond.code ({ cls := "inducere/Utf8OrderRankPinLaw", name := "before", desc := "(CC)Z" } : Jvm.MethodName) method_4_code (4 : Nat) (Option.some Jvm.ClassFile.FieldType.boolean)]
set_option maxRecDepth 65536 in
theorem codes_eq : words1.filter isCode = codes1 := rfl
theorem w_codes : ∀ c ∈ words1.filter isCode, c.before args0 about1 = true := by
  rw [codes_eq]
  intro c hc
  simp only [codes1, List.mem_cons, List.not_mem_nil, or_false] at hc
  rcases hc with rfl | rfl | rfl | rfl | rfl
  · exact w_c0
  · exact w_c1
  · exact w_c2
  · exact w_c3
  · exact w_c4
set_option maxRecDepth 65536 in
theorem w_t1 : words1.all (fun c => isCode c || c.before args0 about1) = true := by decide +kernel
theorem w_tables : (allAtoms (Jvm.Cond.code x code maxLocals ret :: tables_1)).before args0 about1 = true := by
  rw [allAtoms_all]
  show words1.all (fun c => c.before args0 about1) = true
  refine all_split ?_ w_codes
  rw [w_t1]
set_option maxRecDepth 65536 in
theorem w_case : (Jvm.Cond.and given_1 narrow_1).before args0 about1 = true := by decide +kernel
theorem w_applies : (headSpec (Jvm.Cond.code x code maxLocals ret :: tables_1) room_1).applies x e0.platform about1 = true :=
  (Spec.applies_iff w_frames).mpr ⟨w_running, w_runnable, w_alone, w_named, w_hears, w_ripe, w_room, w_tables⟩
theorem atStart : AtStart classFile x code maxLocals ret World_1 tables_1 room_1 Calls_1 rest_1 Pre_1 launch0 p0 e0 about1 theMethod args0 below0 :=
  ⟨lists_1, trivial, launch0.admits_env _ _ _, launch0.least_env, fairChoices_fair.cas, fairChoices_fair.clock, w_frames, w_args, w_heap, w_applies, trivial, trivial, w_case⟩
end start1
theorem witness_1 : WitnessClaimed_1 := ⟨start1.p0, start1.e0, start1.about1, start1.theMethod, start1.args0, start1.below0, start1.atStart⟩
end Jvm.Pilot.@@N@@
