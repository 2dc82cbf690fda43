import JvmDerived
import JvmDerived.Pilot.@@N@@Statement
import JvmDerived.Pilot.@@N@@Code
set_option linter.unusedVariables false
set_option linter.unusedSimpArgs false
namespace Jvm.Pilot.@@N@@
open Jvm Jvm.ClassFile Sem Op Lib Jvm.Free Jvm.Stand Jvm.LawKit Jvm.RoadKit Bundle Jvm.Pilot.@@N@@.Jvm.D
section OwnKit
variable {p : Program} {l : Launch} {e : Env} {R : Room} {s : State} {m : MethodId} {args : Array Value} {below : List Frame} {meth : Method} {c : Code} {T : State} {locs : List Loc} {cells slots : Nat}
/-- from the state A the body runs to its end and leaves what Q says -/
def own_Go (p : Program) (e : Env) (below : List Frame) (s : State) (Q : Option Value → Heap → List Loc → Prop) (kc ks : Nat) (A : State) : Prop :=
  ∃ s₂ o, Steps p.tables e below A s₂ ∧ s₂.status = .running ∧ Ended s₂ below o ∧ ∃ v L, o = .returned v ∧ Q v s₂.heap L ∧ FrameEnd s o s₂ L kc ks
theorem own_go {Q : Option Value → Heap → List Loc → Prop} {kc ks : Nat} {A B : State} (h : ∀ t, Steps p.tables e below B t → Steps p.tables e below A t) (k : own_Go p e below s Q kc ks B) : own_Go p e below s Q kc ks A := by
  obtain ⟨s₂, o, h1, h2⟩ := k
  exact ⟨s₂, o, h _ h1, h2⟩
/-- from the state A the body runs to the frame g', the heap as it was -/
def own_Arm (p : Program) (l : Launch) (e : Env) (R : Room) (s : State) (m : MethodId) (args : Array Value) (below : List Frame) (meth : Method) (c : Code) (cells slots n0 : Nat) (h : Heap) (g' : JFrame) (A : State) : Prop :=
  ∃ (T' : State) (locs' : List Loc), Stand p l e R s m args below meth c T' locs' cells slots ∧ Fr n0 locs' ∧ T'.heap = h ∧ ∀ t, Steps p.tables e below (T'.setTop g') t → Steps p.tables e below A t
theorem own_arm {n0 : Nat} {h : Heap} {g' : JFrame} {A B : State} (k1 : ∀ t, Steps p.tables e below B t → Steps p.tables e below A t) (k : own_Arm p l e R s m args below meth c cells slots n0 h g' B) : own_Arm p l e R s m args below meth c cells slots n0 h g' A := by
  obtain ⟨T', locs', h1, h2, h3, h4⟩ := k
  exact ⟨T', locs', h1, h2, h3, fun t kt => k1 t (h4 t kt)⟩
theorem own_armEnd {n0 : Nat} {h : Heap} {g g' : JFrame} (X : Stand p l e R s m args below meth c T locs cells slots) (N : Fr n0 locs) (eT : T.heap = h) (q : g' = g) : own_Arm p l e R s m args below meth c cells slots n0 h g' (T.setTop g) :=
  ⟨T, locs, X, N, eT, fun t kt => q ▸ kt⟩
theorem own_mrg {n0 : Nat} {h : Heap} {g g' : JFrame} (X : Stand p l e R s m args below meth c T locs cells slots) (k : own_Arm p l e R s m args below meth c cells slots n0 h g' (T.setTop g)) :
    ∃ (T' : State) (locs' : List Loc), Stand p l e R s m args below meth c T' locs' cells slots ∧ Fr n0 locs' ∧ T'.heap = h ∧ ∀ t, Steps p.tables e below (T'.setTop g') t → Steps p.tables e below (T.setTop g) t := k
theorem own_leave {Q : Option Value → Heap → List Loc → Prop} {kc ks : Nat} {A : State} {v : Option Value} (X : Stand p l e R s m args below meth c T locs cells slots) (hv : meth.sig.returnType = none → v = none) (hlk : meth.locks = false)
    (hc : cells ≤ kc) (hs : slots ≤ ks) (hQ : Q v T.heap locs) (k : ∀ fs, (∀ (f : JFrame) (acts : List Action), f.method = m → f.locked = none → f.entered = [] → (doReturn e (T.setTop f) acts v).1 = T.setFrames fs) → Steps p.tables e below A (T.setFrames fs)) : own_Go p e below s Q kc ks A := by
  obtain ⟨fs, hr, hrun, hended, hW, hsame⟩ := X.leave (v := v) hv hlk
  exact ⟨_, _, k fs hr, hrun, hended, _, _, rfl, hQ, ⟨_, rfl⟩, hW, hsame.mono hc hs⟩
theorem own_retI {Q : Option Value → Heap → List Loc → Prop} {kc ks pc : Nat} {Ls : Array Slot} {z : Int32} {rest : List Value} (X : Stand p l e R s m args below meth c T locs cells slots) (hx : p.tables.exec = Jvm.exec) (hret : meth.sig.returnType = some .int) (hlk : meth.locks = false)
    (hd : decode c.code pc = .ok (.ireturn, 1)) (hc : cells ≤ kc) (hs : slots ≤ ks) (hQ : Q (some (.int z)) T.heap locs) : own_Go p e below s Q kc ks (T.setTop (mkF m pc Ls (.int z :: rest))) := by
  refine own_leave X (fun h => by rw [hret] at h; cases h) hlk hc hs hQ fun fs hl => ?_
  have hm' : T.vm.method? m = some meth := X.method'
  have hn : narrow .int (.int z) = .int z := rfl
  show Steps p.tables e below (T.setTop { method := m, pc := pc, locals := Ls, stack := _ :: rest, locked := none }) _
  jvm_step X.here [X.here.top, hx, hd, hm', hret, hn]
  first | (intro acts; rw [hl _ acts rfl rfl rfl]) | rw [hl _ _ rfl rfl rfl]
  exact Steps.refl _
theorem own_retN {Q : Option Value → Heap → List Loc → Prop} {kc ks pc : Nat} {Ls : Array Slot} {z : Int32} {rest : List Value} {t : FieldType} (X : Stand p l e R s m args below meth c T locs cells slots) (hx : p.tables.exec = Jvm.exec) (hret : meth.sig.returnType = some t) (ht : t = .boolean ∨ t = .byte ∨ t = .char ∨ t = .short) (hlk : meth.locks = false)
    (hd : decode c.code pc = .ok (.ireturn, 1)) (hc : cells ≤ kc) (hs : slots ≤ ks) (hQ : Q (some (.int (nar t z))) T.heap locs) : own_Go p e below s Q kc ks (T.setTop (mkF m pc Ls (.int z :: rest))) :=
  own_leave X (fun h => by rw [hret] at h; cases h) hlk hc hs hQ fun fs hl => retN X hx (t := t) hret ht hd hl
theorem own_nar01 {z : Int32} (h : z = 0 ∨ z = 1) : nar .boolean z = z := by rcases h with rfl | rfl <;> rfl
theorem own_retZ {Q : Option Value → Heap → List Loc → Prop} {kc ks pc : Nat} {Ls : Array Slot} {z : Int32} {rest : List Value} (X : Stand p l e R s m args below meth c T locs cells slots) (hx : p.tables.exec = Jvm.exec) (hret : meth.sig.returnType = some .boolean) (hlk : meth.locks = false)
    (hd : decode c.code pc = .ok (.ireturn, 1)) (hc : cells ≤ kc) (hs : slots ≤ ks) (hz : z = 0 ∨ z = 1) (hQ : Q (some (.int z)) T.heap locs) : own_Go p e below s Q kc ks (T.setTop (mkF m pc Ls (.int z :: rest))) :=
  own_retN X hx hret (Or.inl rfl) hlk hd hc hs (by rw [own_nar01 hz]; exact hQ)
theorem own_retJ {Q : Option Value → Heap → List Loc → Prop} {kc ks pc : Nat} {Ls : Array Slot} {z : Int64} (X : Stand p l e R s m args below meth c T locs cells slots) (hx : p.tables.exec = Jvm.exec) (hret : meth.sig.returnType = some .long) (hlk : meth.locks = false)
    (hd : decode c.code pc = .ok (.lreturn, 1)) (hc : cells ≤ kc) (hs : slots ≤ ks) (hQ : Q (some (.long z)) T.heap locs) : own_Go p e below s Q kc ks (T.setTop (mkF m pc Ls [.long z])) :=
  own_leave X (fun h => by rw [hret] at h; cases h) hlk hc hs hQ fun fs hl => X.lreturnOut hx hret hd hl
theorem own_retA {Q : Option Value → Heap → List Loc → Prop} {kc ks pc : Nat} {Ls : Array Slot} {w : Value} {t : FieldType} {rest : List Value} (X : Stand p l e R s m args below meth c T locs cells slots) (hx : p.tables.exec = Jvm.exec) (hret : meth.sig.returnType = some t) (ht : t.isReference = true) (hw : w.isRef = true) (hlk : meth.locks = false)
    (hd : decode c.code pc = .ok (.areturn, 1)) (hc : cells ≤ kc) (hs : slots ≤ ks) (hQ : Q (some w) T.heap locs) : own_Go p e below s Q kc ks (T.setTop (mkF m pc Ls (w :: rest))) := by
  refine own_leave X (fun h => by rw [hret] at h; cases h) hlk hc hs hQ fun fs hl => ?_
  have hm' : T.vm.method? m = some meth := X.method'
  show Steps p.tables e below (T.setTop { method := m, pc := pc, locals := Ls, stack := _ :: rest, locked := none }) _
  rcases ref_cases hw with rfl | ⟨a, rfl⟩
  all_goals
    jvm_step X.here [X.here.top, hx, hd, hm', hret, Value.isRef, ht]
    first | (intro acts; rw [hl _ acts rfl rfl rfl]) | rw [hl _ _ rfl rfl rfl]
    exact Steps.refl _
theorem own_retV {Q : Option Value → Heap → List Loc → Prop} {kc ks pc : Nat} {Ls : Array Slot} (X : Stand p l e R s m args below meth c T locs cells slots) (hx : p.tables.exec = Jvm.exec) (hret : meth.sig.returnType = none) (hlk : meth.locks = false)
    (hd : decode c.code pc = .ok (.return_, 1)) (hc : cells ≤ kc) (hs : slots ≤ ks) (hQ : Q none T.heap locs) : own_Go p e below s Q kc ks (T.setTop (mkF m pc Ls [])) :=
  own_leave X (fun _ => rfl) hlk hc hs hQ fun fs hl => X.returnOut hx hret hd hl
theorem own_getFR {Z : State} {a0 : Array Value} {h : Heap} (X : Stand p l e R s m args below meth c T locs cells slots) (hx : p.tables.exec = Jvm.exec) (hZ : Z.Warmed39 s.vm) {own O n d : String} {index : Nat} (hown : s.vm.findClass own = some m.cls) (w : (Jvm.Cond.fieldRef own index O n d).before a0 Z = true)
    (eT : T.heap = h) {a : Addr} {v : Value} (F : Fld Z h a O n d v) {g : JFrame} (hg : g.method = m) {rest : List Value} (hs : g.stack = .ref a :: rest) (hd : decode c.code g.pc = .ok (.getfield index, 3)) (target : State) (k : Steps p.tables e below (T.setTop { g with pc := g.pc + 3, stack := v :: rest }) target) : Steps p.tables e below (T.setTop g) target := by
  obtain ⟨cell, cf, kc, i, f, h1, h2, h3, h4, -, -, h7⟩ := F
  have hW : Z.Warmed39 T.vm := wtrans hZ X.warmed
  have w2 := Cond.fieldRef_warmed39 hW w
  obtain ⟨k', hi, -⟩ := State.fieldFound?_setVm (s := Z) hW.alike h2
  have hc : (Z.setVm T.vm).vm.findClass own = some m.cls := by show T.vm.findClass own = _; rw [X.warmed.alike.findClass]; exact hown
  obtain ⟨c1, k1, i1, f1, e1, hr⟩ := Cond.fieldRef_spec hc w2
  cases hi.symm.trans e1
  exact (X.getfieldR hx hg (cF := cf) (field := f) hr h3 hs (by rw [eT]; exact h1) h4 h7 hd (Steps.refl _)).trans k
theorem own_ite01 {c : Prop} [Decidable c] {a b : Int32} (ha : a = 0 ∨ a = 1) (hb : b = 0 ∨ b = 1) : (if c then a else b) = 0 ∨ (if c then a else b) = 1 := by split <;> assumption
end OwnKit
theorem own_remI (a b : Int32) : a - a / b * b = a % b := by
  apply Int32.toInt_inj.mp
  rw [Int32.toInt_sub, Int32.toInt_mul, Int32.toInt_div, Int32.toInt_mod]
  rw [Int.bmod_mul_bmod, Int.sub_bmod_bmod]
  have e : a.toInt - a.toInt.tdiv b.toInt * b.toInt = a.toInt.tmod b.toInt := by
    have := Int.mul_tdiv_add_tmod a.toInt b.toInt
    rw [Int.mul_comm] at this
    omega
  rw [e, ← Int32.toInt_mod]
  exact Int.bmod_eq_of_le (by have := Int32.le_toInt (a % b); omega) (by have := Int32.toInt_lt (a % b); omega)
theorem own_remJ (a b : Int64) : a - a / b * b = a % b := by
  apply Int64.toInt_inj.mp
  rw [Int64.toInt_sub, Int64.toInt_mul, Int64.toInt_div, Int64.toInt_mod]
  rw [Int.bmod_mul_bmod, Int.sub_bmod_bmod]
  have e : a.toInt - a.toInt.tdiv b.toInt * b.toInt = a.toInt.tmod b.toInt := by
    have := Int.mul_tdiv_add_tmod a.toInt b.toInt
    rw [Int.mul_comm] at this
    omega
  rw [e, ← Int64.toInt_mod]
  exact Int.bmod_eq_of_le (by have := Int64.le_toInt (a % b); omega) (by have := Int64.toInt_lt (a % b); omega)
theorem own_lc_eq {a b : Int64} (h : a = b) : lcmpW a b = 0 := by subst h; simp [lcmpW]
theorem own_lc_neq {a b : Int64} (h : ¬ (a = b)) : ¬ (lcmpW a b = 0) := by unfold lcmpW; split <;> first | decide | (rw [if_neg h]; decide)
theorem own_lc_lt {a b : Int64} (h : a < b) : lcmpW a b < 0 := by
  have h1 : ¬ (a > b) := fun q => Int64.lt_irrefl (Int64.lt_trans h q)
  have h2 : ¬ (a = b) := fun q => by subst q; exact Int64.lt_irrefl h
  rw [lcmpW, if_neg h1, if_neg h2]; decide
theorem own_lc_nlt {a b : Int64} (h : ¬ (a < b)) : ¬ (lcmpW a b < 0) := by
  unfold lcmpW
  split
  · decide
  · rename_i h1
    split
    · decide
    · rename_i h2; exact absurd (Int64.le_antisymm (Int64.not_lt.mp h1) (Int64.not_lt.mp h)) h2
theorem own_lc_gt {a b : Int64} (h : b < a) : (0 : Int32) < lcmpW a b := by rw [lcmpW, if_pos h]; decide
theorem own_lc_ngt {a b : Int64} (h : ¬ (b < a)) : ¬ ((0 : Int32) < lcmpW a b) := by
  rw [lcmpW, if_neg h]; split <;> decide
theorem own_rn {w : Value} {C : String} (h : w.isRef = true) : narrow (.object C) w = w := by rcases ref_cases h with rfl | ⟨a, rfl⟩ <;> rfl
theorem own_rf {w : Value} {C : String} (h : w.isRef = true) : fits (.object C) w = true := by rcases ref_cases h with rfl | ⟨a, rfl⟩ <;> rfl
theorem own_plainE {Z : State} {h : Heap} {a : Addr} {C : String} (E : Exa Z h a C) : ∀ cell : Cell, h[a]? = some cell → cell.vm.isStatics = false := fun cell hc => by
  obtain ⟨c, k, h1, -, -, h4, -⟩ := E
  cases h1.symm.trans hc; exact h4
theorem own_staKeep {Z : State} {h h' : Heap} {C n d : String} {v : Value} {ws : List Addr} (F : Sta Z h C n d v) (K : Keep h h' ws) (q : ∀ x ∈ ws, ∀ cell : Cell, h[x]? = some cell → cell.vm.isStatics = false) : Sta Z h' C n d v := by
  obtain ⟨cf, i, k, f, st, cell, h1, h2, h3, h4, h5, h6, h7⟩ := F
  exact ⟨cf, i, k, f, st, cell, h1, h2, h3, h4, K.2.1 st cell h5 (fun hm => by rw [q st hm cell h5] at h6; cases h6), h6, h7⟩
theorem d1_0 : decode jdk_29_method_66_code 0 = .ok (.lload_n 0, 1) := by decide +kernel
theorem d1_1 : decode jdk_29_method_66_code 1 = .ok (.lload_n 2, 1) := by decide +kernel
theorem d1_2 : decode jdk_29_method_66_code 2 = .ok (.lcmp, 1) := by decide +kernel
theorem d1_3 : decode jdk_29_method_66_code 3 = .ok (.ifCond .lt 7, 3) := by decide +kernel
theorem d1_6 : decode jdk_29_method_66_code 6 = .ok (.lload_n 0, 1) := by decide +kernel
theorem d1_7 : decode jdk_29_method_66_code 7 = .ok (.goto 4, 3) := by decide +kernel
theorem d1_10 : decode jdk_29_method_66_code 10 = .ok (.lload_n 2, 1) := by decide +kernel
theorem d1_11 : decode jdk_29_method_66_code 11 = .ok (.lreturn, 1) := by decide +kernel
theorem ef_1 (m : MethodId) (q0 : Int64) (q1 : Int64) : entryFrame m #[(.long q0), (.long q1)] 4 = mkF m 0 #[.val (.long q0), .second, .val (.long q1), .second] [] := by (first | (simp [entryFrame, mkF, argsToLocals, Value.category]; done) | rfl)
def own_r1 (q0 : Int64) (q1 : Int64) : Int64 := (if q0 < q1 then q1 else q0)
def Q1 (Z : State) (q0 : Int64) (q1 : Int64) (h0 : Heap) (n0 : Nat) (v : Option Value) (h : Heap) (L : List Loc) : Prop := v = some (.long (own_r1 q0 q1)) ∧ Fr n0 L ∧ h = h0
set_option maxRecDepth 65536 in
set_option maxHeartbeats 40000000 in
theorem rm1 (l : Launch) (Z : State) (a0 : Array Value) (hw : ∀ d ∈ tables_1, d.before a0 Z = true) (ws : List Jvm.Cond) (q0 : Int64) (q1 : Int64) (h0 : Heap) (n0 : Nat) (Z0 : n0 ≤ h0.size) :
    MetFree l (⟨"java/lang/Math", "max", "(JJ)J"⟩ : MethodName) (head1 (Jvm.Cond.code (⟨"java/lang/Math", "max", "(JJ)J"⟩ : MethodName) jdk_29_method_66_code 4 (some .long) :: ws) ({ frames := 0, cells := 0, slots := 0, locals := 0 } : Room)) (fun a U => a = #[(.long q0), (.long q1)] ∧ Z.Warmed39 U.vm ∧ U.heap = h0) (fun _ _ _ _ _ => True) (fun _ U o U' => ∃ v L, o = .returned v ∧ Q1 Z q0 q1 h0 n0 v U'.heap L ∧ FrameEnd U o U' L ({ frames := 0, cells := 0, slots := 0, locals := 0 } : Room).cells ({ frames := 0, cells := 0, slots := 0, locals := 0 } : Room).slots) := by
  refine MetFree.of_bodySF (Jvm.Free.JP.mathPlain rfl (by decide +kernel)) hisR ?_
  intro p e s m args below meth c s₁ Bd hml0 hP hK
  obtain ⟨rfl, hZ, hh⟩ := hP
  have hx := Bd.exec
  have hby := Bd.bytes
  have hml : c.maxLocals = 4 := hml0
  have hown : s.vm.findClass "java/lang/Math" = some m.cls := findClass_of_methodNamed Bd.named
  have hnm := (name_of_methodNamed Bd.named Bd.method).1
  have X0 : Stand p l e ({ frames := 0, cells := 0, slots := 0, locals := 0 } : Room) s m #[(.long q0), (.long q1)] below meth c s₁ [] 0 0 := Stand.of_body Bd
  have e0 : s₁.heap = h0 := by rw [← hh, Bd.state]; rfl
  have N0 := Fr.nil n0
  have K0 : Keep h0 h0 [] := Keep.refl h0 _
  show own_Go p e below s (Q1 Z q0 q1 h0 n0) ({ frames := 0, cells := 0, slots := 0, locals := 0 } : Room).cells ({ frames := 0, cells := 0, slots := 0, locals := 0 } : Room).slots (s₁.setTop (entryFrame m #[(.long q0), (.long q1)] 4))
  refine own_go (fun t k => castTop (ef_1 m q0 q1) k) ?_
  obtain ⟨v2, hv2⟩ : ∃ z : Int64, z = (if q0 < q1 then q1 else q0) := ⟨_, rfl⟩
  obtain ⟨T103, lc103, X103, N103, e103, st103⟩ := own_mrg (n0 := n0) (h := h0) (g := (mkF m 3 #[.val (.long q0), .second, .val (.long q1), .second] [(.int (lcmpW q0 q1))])) (g' := (mkF m 11 #[.val (.long q0), .second, .val (.long q1), .second] [(.long v2)])) X0 (by
    by_cases hc3_1 : q0 < q1
    · have hgo101 : ∀ t, Steps p.tables e below (s₁.setTop (mkF m 11 #[.val (.long q0), .second, .val (.long q1), .second] [(.long q1)])) t → Steps p.tables e below (s₁.setTop (mkF m 3 #[.val (.long q0), .second, .val (.long q1), .second] [(.int (lcmpW q0 q1))])) t := by
        intro t kt
        show Steps p.tables e below (s₁.setTop (mkF m 3 #[.val (.long q0), .second, .val (.long q1), .second] [(.int (lcmpW q0 q1))])) _
        refine XS.ifYes X0.here hx rfl (pc0 := 3) (pc' := 10) rfl (hb hby d1_3) rfl ((if0 _ _).trans (tlt (own_lc_lt hc3_1)).1) (by decide) (by decide) ?_
        show Steps p.tables e below (s₁.setTop (mkF m 10 #[.val (.long q0), .second, .val (.long q1), .second] [])) _
        refine XS.lloadN X0.here hx rfl (hb hby d1_10) rfl ?_
        exact kt
      refine own_arm hgo101 ?_
      exact own_armEnd X0 N0 e0 (by rw [hv2.trans (if_pos hc3_1)])
    · have hgo102 : ∀ t, Steps p.tables e below (s₁.setTop (mkF m 11 #[.val (.long q0), .second, .val (.long q1), .second] [(.long q0)])) t → Steps p.tables e below (s₁.setTop (mkF m 3 #[.val (.long q0), .second, .val (.long q1), .second] [(.int (lcmpW q0 q1))])) t := by
        intro t kt
        show Steps p.tables e below (s₁.setTop (mkF m 3 #[.val (.long q0), .second, .val (.long q1), .second] [(.int (lcmpW q0 q1))])) _
        refine XS.ifNo X0.here hx rfl (hb hby d1_3) rfl ((if0 _ _).trans (flt (own_lc_nlt hc3_1)).1) ?_
        show Steps p.tables e below (s₁.setTop (mkF m 6 #[.val (.long q0), .second, .val (.long q1), .second] [])) _
        refine XS.lloadN X0.here hx rfl (hb hby d1_6) rfl ?_
        show Steps p.tables e below (s₁.setTop (mkF m 7 #[.val (.long q0), .second, .val (.long q1), .second] [(.long q0)])) _
        refine XS.goto X0.here hx rfl (pc0 := 7) (pc' := 11) rfl (hb hby d1_7) (by decide) (by decide) ?_
        exact kt
      refine own_arm hgo102 ?_
      exact own_armEnd X0 N0 e0 (by rw [hv2.trans (if_neg hc3_1)]))
  have hgo104 : ∀ t, Steps p.tables e below (T103.setTop (mkF m 11 #[.val (.long q0), .second, .val (.long q1), .second] [(.long v2)])) t → Steps p.tables e below (s₁.setTop (mkF m 0 #[.val (.long q0), .second, .val (.long q1), .second] [])) t := by
    intro t kt
    show Steps p.tables e below (s₁.setTop (mkF m 0 #[.val (.long q0), .second, .val (.long q1), .second] [])) _
    refine XS.lloadN X0.here hx rfl (hb hby d1_0) rfl ?_
    show Steps p.tables e below (s₁.setTop (mkF m 1 #[.val (.long q0), .second, .val (.long q1), .second] [(.long q0)])) _
    refine XS.lloadN X0.here hx rfl (hb hby d1_1) rfl ?_
    show Steps p.tables e below (s₁.setTop (mkF m 2 #[.val (.long q0), .second, .val (.long q1), .second] [(.long q1), (.long q0)])) _
    refine XS.lcmp X0.here hx rfl (hb hby d1_2) rfl ?_
    show Steps p.tables e below (s₁.setTop (mkF m 3 #[.val (.long q0), .second, .val (.long q1), .second] [(.int (lcmpW q0 q1))])) _
    refine st103 _ ?_
    exact kt
  refine own_go hgo104 ?_
  exact own_retJ X103 hx Bd.returns Bd.notSynchronized (hb hby d1_11) (by decide) (by decide) (by rw [e103]; exact ⟨(by subst hv2; rw [own_r1]), N103, rfl⟩)
theorem d14_0 : decode jdk_29_method_65_code 0 = .ok (.iload_n 0, 1) := by decide +kernel
theorem d14_1 : decode jdk_29_method_65_code 1 = .ok (.iload_n 1, 1) := by decide +kernel
theorem d14_2 : decode jdk_29_method_65_code 2 = .ok (.if_icmp .lt 7, 3) := by decide +kernel
theorem d14_5 : decode jdk_29_method_65_code 5 = .ok (.iload_n 0, 1) := by decide +kernel
theorem d14_6 : decode jdk_29_method_65_code 6 = .ok (.goto 4, 3) := by decide +kernel
theorem d14_9 : decode jdk_29_method_65_code 9 = .ok (.iload_n 1, 1) := by decide +kernel
theorem d14_10 : decode jdk_29_method_65_code 10 = .ok (.ireturn, 1) := by decide +kernel
theorem ef_14 (m : MethodId) (p0 : Int32) (p1 : Int32) : entryFrame m #[(.int p0), (.int p1)] 2 = mkF m 0 #[.val (.int p0), .val (.int p1)] [] := by (first | (simp [entryFrame, mkF, argsToLocals, Value.category]; done) | rfl)
def own_r14 (p0 : Int32) (p1 : Int32) : Int32 := (if p0 < p1 then p1 else p0)
def Q14 (Z : State) (p0 : Int32) (p1 : Int32) (h0 : Heap) (n0 : Nat) (v : Option Value) (h : Heap) (L : List Loc) : Prop := v = some (.int (own_r14 p0 p1)) ∧ Fr n0 L ∧ h = h0
set_option maxRecDepth 65536 in
set_option maxHeartbeats 40000000 in
theorem rm14 (l : Launch) (Z : State) (a0 : Array Value) (hw : ∀ d ∈ tables_1, d.before a0 Z = true) (ws : List Jvm.Cond) (p0 : Int32) (p1 : Int32) (h0 : Heap) (n0 : Nat) (Z0 : n0 ≤ h0.size) :
    MetFree l (⟨"java/lang/Math", "max", "(II)I"⟩ : MethodName) (head1 (Jvm.Cond.code (⟨"java/lang/Math", "max", "(II)I"⟩ : MethodName) jdk_29_method_65_code 2 (some .int) :: ws) ({ frames := 0, cells := 0, slots := 0, locals := 0 } : Room)) (fun a U => a = #[(.int p0), (.int p1)] ∧ Z.Warmed39 U.vm ∧ U.heap = h0) (fun _ _ _ _ _ => True) (fun _ U o U' => ∃ v L, o = .returned v ∧ Q14 Z p0 p1 h0 n0 v U'.heap L ∧ FrameEnd U o U' L ({ frames := 0, cells := 0, slots := 0, locals := 0 } : Room).cells ({ frames := 0, cells := 0, slots := 0, locals := 0 } : Room).slots) := by
  refine MetFree.of_bodySF (Jvm.Free.JP.mathPlain rfl (by decide +kernel)) hisR ?_
  intro p e s m args below meth c s₁ Bd hml0 hP hK
  obtain ⟨rfl, hZ, hh⟩ := hP
  have hx := Bd.exec
  have hby := Bd.bytes
  have hml : c.maxLocals = 2 := hml0
  have hown : s.vm.findClass "java/lang/Math" = some m.cls := findClass_of_methodNamed Bd.named
  have hnm := (name_of_methodNamed Bd.named Bd.method).1
  have X0 : Stand p l e ({ frames := 0, cells := 0, slots := 0, locals := 0 } : Room) s m #[(.int p0), (.int p1)] below meth c s₁ [] 0 0 := Stand.of_body Bd
  have e0 : s₁.heap = h0 := by rw [← hh, Bd.state]; rfl
  have N0 := Fr.nil n0
  have K0 : Keep h0 h0 [] := Keep.refl h0 _
  show own_Go p e below s (Q14 Z p0 p1 h0 n0) ({ frames := 0, cells := 0, slots := 0, locals := 0 } : Room).cells ({ frames := 0, cells := 0, slots := 0, locals := 0 } : Room).slots (s₁.setTop (entryFrame m #[(.int p0), (.int p1)] 2))
  refine own_go (fun t k => castTop (ef_14 m p0 p1) k) ?_
  obtain ⟨v2, hv2⟩ : ∃ z : Int32, z = (if p0 < p1 then p1 else p0) := ⟨_, rfl⟩
  obtain ⟨T103, lc103, X103, N103, e103, st103⟩ := own_mrg (n0 := n0) (h := h0) (g := (mkF m 2 #[.val (.int p0), .val (.int p1)] [(.int p1), (.int p0)])) (g' := (mkF m 10 #[.val (.int p0), .val (.int p1)] [(.int v2)])) X0 (by
    by_cases hc2_1 : p0 < p1
    · have hgo101 : ∀ t, Steps p.tables e below (s₁.setTop (mkF m 10 #[.val (.int p0), .val (.int p1)] [(.int p1)])) t → Steps p.tables e below (s₁.setTop (mkF m 2 #[.val (.int p0), .val (.int p1)] [(.int p1), (.int p0)])) t := by
        intro t kt
        show Steps p.tables e below (s₁.setTop (mkF m 2 #[.val (.int p0), .val (.int p1)] [(.int p1), (.int p0)])) _
        refine XS.icmpYes X0.here hx rfl (pc0 := 2) (pc' := 9) rfl (hb hby d14_2) rfl (tlt hc2_1).1 (by decide) (by decide) ?_
        show Steps p.tables e below (s₁.setTop (mkF m 9 #[.val (.int p0), .val (.int p1)] [])) _
        refine XS.iloadN X0.here hx rfl (hb hby d14_9) rfl ?_
        exact kt
      refine own_arm hgo101 ?_
      exact own_armEnd X0 N0 e0 (by rw [hv2.trans (if_pos hc2_1)])
    · have hgo102 : ∀ t, Steps p.tables e below (s₁.setTop (mkF m 10 #[.val (.int p0), .val (.int p1)] [(.int p0)])) t → Steps p.tables e below (s₁.setTop (mkF m 2 #[.val (.int p0), .val (.int p1)] [(.int p1), (.int p0)])) t := by
        intro t kt
        show Steps p.tables e below (s₁.setTop (mkF m 2 #[.val (.int p0), .val (.int p1)] [(.int p1), (.int p0)])) _
        refine XS.icmpNo X0.here hx rfl (hb hby d14_2) rfl (flt hc2_1).1 ?_
        show Steps p.tables e below (s₁.setTop (mkF m 5 #[.val (.int p0), .val (.int p1)] [])) _
        refine XS.iloadN X0.here hx rfl (hb hby d14_5) rfl ?_
        show Steps p.tables e below (s₁.setTop (mkF m 6 #[.val (.int p0), .val (.int p1)] [(.int p0)])) _
        refine XS.goto X0.here hx rfl (pc0 := 6) (pc' := 10) rfl (hb hby d14_6) (by decide) (by decide) ?_
        exact kt
      refine own_arm hgo102 ?_
      exact own_armEnd X0 N0 e0 (by rw [hv2.trans (if_neg hc2_1)]))
  have hgo104 : ∀ t, Steps p.tables e below (T103.setTop (mkF m 10 #[.val (.int p0), .val (.int p1)] [(.int v2)])) t → Steps p.tables e below (s₁.setTop (mkF m 0 #[.val (.int p0), .val (.int p1)] [])) t := by
    intro t kt
    show Steps p.tables e below (s₁.setTop (mkF m 0 #[.val (.int p0), .val (.int p1)] [])) _
    refine XS.iloadN X0.here hx rfl (hb hby d14_0) rfl ?_
    show Steps p.tables e below (s₁.setTop (mkF m 1 #[.val (.int p0), .val (.int p1)] [(.int p0)])) _
    refine XS.iloadN X0.here hx rfl (hb hby d14_1) rfl ?_
    show Steps p.tables e below (s₁.setTop (mkF m 2 #[.val (.int p0), .val (.int p1)] [(.int p1), (.int p0)])) _
    refine st103 _ ?_
    exact kt
  refine own_go hgo104 ?_
  exact own_retI X103 hx Bd.returns Bd.notSynchronized (hb hby d14_10) (by decide) (by decide) (by rw [e103]; exact ⟨(by subst hv2; rw [own_r14]), N103, rfl⟩)
theorem d3_0 : decode jdk_30_method_1_code 0 = .ok (.aload_n 0, 1) := by decide +kernel
theorem d3_1 : decode jdk_30_method_1_code 1 = .ok (.invokespecial 1, 3) := by decide +kernel
theorem d3_4 : decode jdk_30_method_1_code 4 = .ok (.return_, 1) := by decide +kernel
theorem ef_3 (m : MethodId) (r0 : Addr) : entryFrame m #[(.ref r0)] 1 = mkF m 0 #[.val (.ref r0)] [] := by (first | (simp [entryFrame, mkF, argsToLocals, Value.category]; done) | rfl)
theorem pn0 : plainName "java/lang/Record" = true := by first | (simp [plainName, overriddenIn]; done) | decide +kernel
def Q3 (Z : State) (r0 : Addr) (h0 : Heap) (n0 : Nat) (v : Option Value) (h : Heap) (L : List Loc) : Prop := v = none ∧ Fr n0 L ∧ h = h0
set_option maxRecDepth 65536 in
set_option maxHeartbeats 40000000 in
theorem rm3 (l : Launch) (Z : State) (a0 : Array Value) (hw : ∀ d ∈ tables_1, d.before a0 Z = true) (ws : List Jvm.Cond) (r0 : Addr) (h0 : Heap) (n0 : Nat) (Z0 : n0 ≤ h0.size) :
    MetFree l (⟨"java/lang/Record", "<init>", "()V"⟩ : MethodName) (head1 (Jvm.Cond.code (⟨"java/lang/Record", "<init>", "()V"⟩ : MethodName) jdk_30_method_1_code 1 none :: ws) ({ frames := 1, cells := 0, slots := 0, locals := 12 } : Room)) (fun a U => a = #[(.ref r0)] ∧ Z.Warmed39 U.vm ∧ U.heap = h0) (fun _ _ _ _ _ => True) (fun _ U o U' => ∃ v L, o = .returned v ∧ Q3 Z r0 h0 n0 v U'.heap L ∧ FrameEnd U o U' L ({ frames := 1, cells := 0, slots := 0, locals := 12 } : Room).cells ({ frames := 1, cells := 0, slots := 0, locals := 12 } : Room).slots) := by
  refine MetFree.of_bodySF (plainFor_of_name pn0) hisR ?_
  intro p e s m args below meth c s₁ Bd hml0 hP hK
  obtain ⟨rfl, hZ, hh⟩ := hP
  have hx := Bd.exec
  have hby := Bd.bytes
  have hml : c.maxLocals = 1 := hml0
  have hown : s.vm.findClass "java/lang/Record" = some m.cls := findClass_of_methodNamed Bd.named
  have hnm := (name_of_methodNamed Bd.named Bd.method).1
  have X0 : Stand p l e ({ frames := 1, cells := 0, slots := 0, locals := 12 } : Room) s m #[(.ref r0)] below meth c s₁ [] 0 0 := Stand.of_body Bd
  have e0 : s₁.heap = h0 := by rw [← hh, Bd.state]; rfl
  have N0 := Fr.nil n0
  have K0 : Keep h0 h0 [] := Keep.refl h0 _
  show own_Go p e below s (Q3 Z r0 h0 n0) ({ frames := 1, cells := 0, slots := 0, locals := 12 } : Room).cells ({ frames := 1, cells := 0, slots := 0, locals := 12 } : Room).slots (s₁.setTop (entryFrame m #[(.ref r0)] 1))
  refine own_go (fun t k => castTop (ef_3 m r0) k) ?_
  obtain ⟨T101, X101, e101, st101⟩ := initO X0 hx hZ hown (hw _ (List.mem_of_getElem? (i := 16) rfl)) (hw _ (List.mem_of_getElem? (i := 17) rfl)) (hw _ (List.mem_of_getElem? (i := 18) rfl)) e0 (g := (mkF m 1 #[.val (.ref r0)] [(.ref r0)])) rfl (by rw [hml]; rfl) rfl (hb hby d3_1) (by decide) (W := 0) (by show 2 * 0 + _ ≤ _; exact Nat.le_of_eq rfl) (by decide)
  have hgo102 : ∀ t, Steps p.tables e below (T101.setTop (mkF m 4 #[.val (.ref r0)] [])) t → Steps p.tables e below (s₁.setTop (mkF m 0 #[.val (.ref r0)] [])) t := by
    intro t kt
    show Steps p.tables e below (s₁.setTop (mkF m 0 #[.val (.ref r0)] [])) _
    refine XS.aloadN X0.here hx rfl (hb hby d3_0) rfl rfl ?_
    show Steps p.tables e below (s₁.setTop (mkF m 1 #[.val (.ref r0)] [(.ref r0)])) _
    refine st101 _ ?_
    exact kt
  refine own_go hgo102 ?_
  exact own_retV X101 hx Bd.returns Bd.notSynchronized (hb hby d3_4) (by decide) (by decide) (by rw [e101]; exact ⟨(by rfl), N0, rfl⟩)
theorem pd1 : parseMethodDescriptor "()V" = some ⟨[], none⟩ := by decide +kernel
theorem d2_0 : decode prog_14_method_1_code 0 = .ok (.aload_n 0, 1) := by decide +kernel
theorem d2_1 : decode prog_14_method_1_code 1 = .ok (.invokespecial 1, 3) := by decide +kernel
theorem d2_4 : decode prog_14_method_1_code 4 = .ok (.aload_n 0, 1) := by decide +kernel
theorem d2_5 : decode prog_14_method_1_code 5 = .ok (.lload_n 1, 1) := by decide +kernel
theorem d2_6 : decode prog_14_method_1_code 6 = .ok (.putfield 7, 3) := by decide +kernel
theorem d2_9 : decode prog_14_method_1_code 9 = .ok (.aload_n 0, 1) := by decide +kernel
theorem d2_10 : decode prog_14_method_1_code 10 = .ok (.lload_n 3, 1) := by decide +kernel
theorem d2_11 : decode prog_14_method_1_code 11 = .ok (.putfield 13, 3) := by decide +kernel
theorem d2_14 : decode prog_14_method_1_code 14 = .ok (.return_, 1) := by decide +kernel
theorem ef_2 (m : MethodId) (r0 : Addr) (q1 : Int64) (q2 : Int64) : entryFrame m #[(.ref r0), (.long q1), (.long q2)] 5 = mkF m 0 #[.val (.ref r0), .val (.long q1), .second, .val (.long q2), .second] [] := by (first | (simp [entryFrame, mkF, argsToLocals, Value.category]; done) | rfl)
theorem pn2 : plainName "com/example/upper_falls/upperfalls/KeyHash" = true := by first | (simp [plainName, overriddenIn]; done) | decide +kernel
def Q2 (Z : State) (r0 : Addr) (q1 : Int64) (q2 : Int64) (w3 : Int64) (w4 : Int64) (h0 : Heap) (n0 : Nat) (v : Option Value) (h : Heap) (L : List Loc) : Prop := v = none ∧ Fr n0 L ∧ Keep h0 h [r0] ∧ Exa Z h r0 "com/example/upper_falls/upperfalls/KeyHash" ∧ Fld Z h r0 "com/example/upper_falls/upperfalls/KeyHash" "h1" "J" (.long q1) ∧ Fld Z h r0 "com/example/upper_falls/upperfalls/KeyHash" "h2" "J" (.long q2)
set_option maxRecDepth 65536 in
set_option maxHeartbeats 40000000 in
theorem rm2 (l : Launch) (Z : State) (a0 : Array Value) (hw : ∀ d ∈ tables_1, d.before a0 Z = true) (ws : List Jvm.Cond) (r0 : Addr) (q1 : Int64) (q2 : Int64) (w3 : Int64) (w4 : Int64) (h0 : Heap) (n0 : Nat) (Z0 : n0 ≤ h0.size) (E_r0 : Exa Z h0 r0 "com/example/upper_falls/upperfalls/KeyHash") (F_h1_r0 : Fld Z h0 r0 "com/example/upper_falls/upperfalls/KeyHash" "h1" "J" (.long w3)) (F_h2_r0 : Fld Z h0 r0 "com/example/upper_falls/upperfalls/KeyHash" "h2" "J" (.long w4)) (g_r0 : n0 ≤ r0) :
    MetFree l (⟨"com/example/upper_falls/upperfalls/KeyHash", "<init>", "(JJ)V"⟩ : MethodName) (head1 (Jvm.Cond.code (⟨"com/example/upper_falls/upperfalls/KeyHash", "<init>", "(JJ)V"⟩ : MethodName) prog_14_method_1_code 5 none :: ws) ({ frames := 2, cells := 0, slots := 0, locals := 24 } : Room)) (fun a U => a = #[(.ref r0), (.long q1), (.long q2)] ∧ Z.Warmed39 U.vm ∧ U.heap = h0) (fun _ _ _ _ _ => True) (fun _ U o U' => ∃ v L, o = .returned v ∧ Q2 Z r0 q1 q2 w3 w4 h0 n0 v U'.heap L ∧ FrameEnd U o U' L ({ frames := 2, cells := 0, slots := 0, locals := 24 } : Room).cells ({ frames := 2, cells := 0, slots := 0, locals := 24 } : Room).slots) := by
  refine MetFree.of_bodySF (plainFor_of_name pn2) hisR ?_
  intro p e s m args below meth c s₁ Bd hml0 hP hK
  obtain ⟨rfl, hZ, hh⟩ := hP
  have hx := Bd.exec
  have hby := Bd.bytes
  have hml : c.maxLocals = 5 := hml0
  have hown : s.vm.findClass "com/example/upper_falls/upperfalls/KeyHash" = some m.cls := findClass_of_methodNamed Bd.named
  have hnm := (name_of_methodNamed Bd.named Bd.method).1
  have X0 : Stand p l e ({ frames := 2, cells := 0, slots := 0, locals := 24 } : Room) s m #[(.ref r0), (.long q1), (.long q2)] below meth c s₁ [] 0 0 := Stand.of_body Bd
  have e0 : s₁.heap = h0 := by rw [← hh, Bd.state]; rfl
  have N0 := Fr.nil n0
  have K0 : Keep h0 h0 [r0] := Keep.refl h0 _
  show own_Go p e below s (Q2 Z r0 q1 q2 w3 w4 h0 n0) ({ frames := 2, cells := 0, slots := 0, locals := 24 } : Room).cells ({ frames := 2, cells := 0, slots := 0, locals := 24 } : Room).slots (s₁.setTop (entryFrame m #[(.ref r0), (.long q1), (.long q2)] 5))
  refine own_go (fun t k => castTop (ef_2 m r0 q1 q2) k) ?_
  obtain ⟨_, _, ⟨T101, L101, k101, n101⟩, -, X101, ⟨Lc101, hQ101, l101, y101, z101⟩, st101⟩ := X0.specialBack hx (y := (⟨"java/lang/Record", "<init>", "()V"⟩ : MethodName)) rfl hown (mvT hZ (hw _ (List.mem_of_getElem? (i := 11) rfl))) (mvT hZ (hw _ (List.mem_of_getElem? (i := 12) rfl))) (mvT hZ (hw _ (List.mem_of_getElem? (i := 15) rfl))) (by decide) (backOf (W := 0) (rm3 l Z a0 hw [] r0 h0 n0 Z0 ) hZ (hw _ (List.mem_of_getElem? (i := 15) rfl)) (hw _ (List.mem_of_getElem? (i := 14) rfl)) (by decide) (by decide)) (g := (mkF m 1 #[.val (.ref r0), .val (.long q1), .second, .val (.long q2), .second] [(.ref r0)])) rfl (by rw [hml]; rfl) (Steps.refl _) (a := r0) (argsL := []) (rest := []) (lenOf pd1 rfl) rfl (by show 2 * 0 + _ ≤ _; exact Nat.le_of_eq rfl) (hb hby d2_1) (fun _ _ => ⟨rfl, e0, (by decide : 0 + 0 ≤ _), (by decide : 0 + 0 ≤ _)⟩)
  dsimp only [Pt.U, Pt.locs, Pt.cells, Pt.slots] at X101 l101 y101 z101 st101 hQ101
  subst l101 y101 z101
  obtain ⟨rfl, N101q, e101⟩ := hQ101
  have N101 := Fr.app N0 N101q
  obtain ⟨T102, h102, X102, e102, W102, st102⟩ := putF X101 hx hZ hown (host := "") (Or.inl (hw _ (List.mem_of_getElem? (i := 19) rfl))) Via.refl e101 F_h1_r0 E_r0 (Or.inr ⟨(hw _ (List.mem_of_getElem? (i := 20) rfl)), rfl, hnm⟩) (hw _ (List.mem_of_getElem? (i := 6) rfl)) (ty := .long) (by decide) rfl rfl (g := (mkF m 6 #[.val (.ref r0), .val (.long q1), .second, .val (.long q2), .second] [(.long q1), (.ref r0)])) rfl rfl (hb hby d2_6)
  have F103 := E_r0.wr W102
  have F104 := F_h1_r0.same W102
  have F105 := F_h2_r0.other W102 (Or.inr (slot_ne (Or.inr (hw _ (List.mem_of_getElem? (i := 22) rfl))) (Or.inr (hw _ (List.mem_of_getElem? (i := 20) rfl))) (by decide) (t := .long) (t' := .long) (by decide) (by decide)))
  have Z106 : n0 ≤ h102.size := Nat.le_trans Z0 (Keep.of_wr W102).1
  have K107 : Keep h0 h102 [r0] := K0.wr W102 (Or.inl (List.mem_of_getElem? (i := 0) rfl))
  have N108 := Fr.snoc X102 N101 g_r0
  obtain ⟨T109, h109, X109, e109, W109, st109⟩ := putF X102 hx hZ hown (host := "") (Or.inl (hw _ (List.mem_of_getElem? (i := 21) rfl))) Via.refl e102 F105 F103 (Or.inr ⟨(hw _ (List.mem_of_getElem? (i := 22) rfl)), rfl, hnm⟩) (hw _ (List.mem_of_getElem? (i := 6) rfl)) (ty := .long) (by decide) rfl rfl (g := (mkF m 11 #[.val (.ref r0), .val (.long q1), .second, .val (.long q2), .second] [(.long q2), (.ref r0)])) rfl rfl (hb hby d2_11)
  have F110 := F103.wr W109
  have F111 := F104.other W109 (Or.inr (slot_ne (Or.inr (hw _ (List.mem_of_getElem? (i := 20) rfl))) (Or.inr (hw _ (List.mem_of_getElem? (i := 22) rfl))) (by decide) (t := .long) (t' := .long) (by decide) (by decide)))
  have F112 := F105.same W109
  have Z113 : n0 ≤ h109.size := Nat.le_trans Z106 (Keep.of_wr W109).1
  have K114 : Keep h0 h109 [r0] := K107.wr W109 (Or.inl (List.mem_of_getElem? (i := 0) rfl))
  have N115 := Fr.snoc X109 N108 g_r0
  have hgo116 : ∀ t, Steps p.tables e below (T109.setTop (mkF m 14 #[.val (.ref r0), .val (.long q1), .second, .val (.long q2), .second] [])) t → Steps p.tables e below (s₁.setTop (mkF m 0 #[.val (.ref r0), .val (.long q1), .second, .val (.long q2), .second] [])) t := by
    intro t kt
    show Steps p.tables e below (s₁.setTop (mkF m 0 #[.val (.ref r0), .val (.long q1), .second, .val (.long q2), .second] [])) _
    refine XS.aloadN X0.here hx rfl (hb hby d2_0) rfl rfl ?_
    show Steps p.tables e below (s₁.setTop (mkF m 1 #[.val (.ref r0), .val (.long q1), .second, .val (.long q2), .second] [(.ref r0)])) _
    refine st101.trans ?_
    show Steps p.tables e below (T101.setTop (mkF m 4 #[.val (.ref r0), .val (.long q1), .second, .val (.long q2), .second] [])) _
    refine XS.aloadN X101.here hx rfl (hb hby d2_4) rfl rfl ?_
    show Steps p.tables e below (T101.setTop (mkF m 5 #[.val (.ref r0), .val (.long q1), .second, .val (.long q2), .second] [(.ref r0)])) _
    refine XS.lloadN X101.here hx rfl (hb hby d2_5) rfl ?_
    show Steps p.tables e below (T101.setTop (mkF m 6 #[.val (.ref r0), .val (.long q1), .second, .val (.long q2), .second] [(.long q1), (.ref r0)])) _
    refine st102 _ ?_
    show Steps p.tables e below (T102.setTop (mkF m 9 #[.val (.ref r0), .val (.long q1), .second, .val (.long q2), .second] [])) _
    refine XS.aloadN X102.here hx rfl (hb hby d2_9) rfl rfl ?_
    show Steps p.tables e below (T102.setTop (mkF m 10 #[.val (.ref r0), .val (.long q1), .second, .val (.long q2), .second] [(.ref r0)])) _
    refine XS.lloadN X102.here hx rfl (hb hby d2_10) rfl ?_
    show Steps p.tables e below (T102.setTop (mkF m 11 #[.val (.ref r0), .val (.long q1), .second, .val (.long q2), .second] [(.long q2), (.ref r0)])) _
    refine st109 _ ?_
    exact kt
  refine own_go hgo116 ?_
  exact own_retV X109 hx Bd.returns Bd.notSynchronized (hb hby d2_14) (by decide) (by decide) (by rw [e109]; exact ⟨(by rfl), N115, K114, F110, (by exact F111), (by exact F112)⟩)
theorem d5_0 : decode prog_12_method_1_code 0 = .ok (.aload_n 0, 1) := by decide +kernel
theorem d5_1 : decode prog_12_method_1_code 1 = .ok (.invokespecial 1, 3) := by decide +kernel
theorem d5_4 : decode prog_12_method_1_code 4 = .ok (.lload_n 1, 1) := by decide +kernel
theorem d5_5 : decode prog_12_method_1_code 5 = .ok (.lconst 1, 1) := by decide +kernel
theorem d5_6 : decode prog_12_method_1_code 6 = .ok (.lcmp, 1) := by decide +kernel
theorem d5_7 : decode prog_12_method_1_code 7 = .ok (.ifCond .ge 17, 3) := by decide +kernel
theorem d5_24 : decode prog_12_method_1_code 24 = .ok (.iload_n 3, 1) := by decide +kernel
theorem d5_25 : decode prog_12_method_1_code 25 = .ok (.iconst 1, 1) := by decide +kernel
theorem d5_26 : decode prog_12_method_1_code 26 = .ok (.if_icmp .ge 17, 3) := by decide +kernel
theorem d5_43 : decode prog_12_method_1_code 43 = .ok (.aload_n 0, 1) := by decide +kernel
theorem d5_44 : decode prog_12_method_1_code 44 = .ok (.lload_n 1, 1) := by decide +kernel
theorem d5_45 : decode prog_12_method_1_code 45 = .ok (.putfield 19, 3) := by decide +kernel
theorem d5_48 : decode prog_12_method_1_code 48 = .ok (.aload_n 0, 1) := by decide +kernel
theorem d5_49 : decode prog_12_method_1_code 49 = .ok (.iload_n 3, 1) := by decide +kernel
theorem d5_50 : decode prog_12_method_1_code 50 = .ok (.putfield 25, 3) := by decide +kernel
theorem d5_53 : decode prog_12_method_1_code 53 = .ok (.return_, 1) := by decide +kernel
theorem ef_5 (m : MethodId) (r0 : Addr) (q1 : Int64) (p2 : Int32) : entryFrame m #[(.ref r0), (.long q1), (.int p2)] 4 = mkF m 0 #[.val (.ref r0), .val (.long q1), .second, .val (.int p2)] [] := by (first | (simp [entryFrame, mkF, argsToLocals, Value.category]; done) | rfl)
theorem pn3 : plainName "com/example/upper_falls/upperfalls/FilterSize" = true := by first | (simp [plainName, overriddenIn]; done) | decide +kernel
def Q5 (Z : State) (r0 : Addr) (q1 : Int64) (p2 : Int32) (w3 : Int64) (w4 : Int32) (h0 : Heap) (n0 : Nat) (v : Option Value) (h : Heap) (L : List Loc) : Prop := v = none ∧ Fr n0 L ∧ Keep h0 h [r0] ∧ Exa Z h r0 "com/example/upper_falls/upperfalls/FilterSize" ∧ Fld Z h r0 "com/example/upper_falls/upperfalls/FilterSize" "bits" "J" (.long q1) ∧ Fld Z h r0 "com/example/upper_falls/upperfalls/FilterSize" "hashes" "I" (.int p2)
set_option maxRecDepth 65536 in
set_option maxHeartbeats 40000000 in
theorem rm5 (l : Launch) (Z : State) (a0 : Array Value) (hw : ∀ d ∈ tables_1, d.before a0 Z = true) (ws : List Jvm.Cond) (r0 : Addr) (q1 : Int64) (p2 : Int32) (w3 : Int64) (w4 : Int32) (h0 : Heap) (n0 : Nat) (Z0 : n0 ≤ h0.size) (hb1 : ¬ (q1 < (1 : Int64))) (hb2 : ¬ (p2 < (1 : Int32))) (E_r0 : Exa Z h0 r0 "com/example/upper_falls/upperfalls/FilterSize") (F_bits_r0 : Fld Z h0 r0 "com/example/upper_falls/upperfalls/FilterSize" "bits" "J" (.long w3)) (F_hashes_r0 : Fld Z h0 r0 "com/example/upper_falls/upperfalls/FilterSize" "hashes" "I" (.int w4)) (g_r0 : n0 ≤ r0) :
    MetFree l (⟨"com/example/upper_falls/upperfalls/FilterSize", "<init>", "(JI)V"⟩ : MethodName) (head1 (Jvm.Cond.code (⟨"com/example/upper_falls/upperfalls/FilterSize", "<init>", "(JI)V"⟩ : MethodName) prog_12_method_1_code 4 none :: ws) ({ frames := 2, cells := 0, slots := 0, locals := 24 } : Room)) (fun a U => a = #[(.ref r0), (.long q1), (.int p2)] ∧ Z.Warmed39 U.vm ∧ U.heap = h0) (fun _ _ _ _ _ => True) (fun _ U o U' => ∃ v L, o = .returned v ∧ Q5 Z r0 q1 p2 w3 w4 h0 n0 v U'.heap L ∧ FrameEnd U o U' L ({ frames := 2, cells := 0, slots := 0, locals := 24 } : Room).cells ({ frames := 2, cells := 0, slots := 0, locals := 24 } : Room).slots) := by
  refine MetFree.of_bodySF (plainFor_of_name pn3) hisR ?_
  intro p e s m args below meth c s₁ Bd hml0 hP hK
  obtain ⟨rfl, hZ, hh⟩ := hP
  have hx := Bd.exec
  have hby := Bd.bytes
  have hml : c.maxLocals = 4 := hml0
  have hown : s.vm.findClass "com/example/upper_falls/upperfalls/FilterSize" = some m.cls := findClass_of_methodNamed Bd.named
  have hnm := (name_of_methodNamed Bd.named Bd.method).1
  have X0 : Stand p l e ({ frames := 2, cells := 0, slots := 0, locals := 24 } : Room) s m #[(.ref r0), (.long q1), (.int p2)] below meth c s₁ [] 0 0 := Stand.of_body Bd
  have e0 : s₁.heap = h0 := by rw [← hh, Bd.state]; rfl
  have N0 := Fr.nil n0
  have K0 : Keep h0 h0 [r0] := Keep.refl h0 _
  show own_Go p e below s (Q5 Z r0 q1 p2 w3 w4 h0 n0) ({ frames := 2, cells := 0, slots := 0, locals := 24 } : Room).cells ({ frames := 2, cells := 0, slots := 0, locals := 24 } : Room).slots (s₁.setTop (entryFrame m #[(.ref r0), (.long q1), (.int p2)] 4))
  refine own_go (fun t k => castTop (ef_5 m r0 q1 p2) k) ?_
  obtain ⟨_, _, ⟨T101, L101, k101, n101⟩, -, X101, ⟨Lc101, hQ101, l101, y101, z101⟩, st101⟩ := X0.specialBack hx (y := (⟨"java/lang/Record", "<init>", "()V"⟩ : MethodName)) rfl hown (mvT hZ (hw _ (List.mem_of_getElem? (i := 29) rfl))) (mvT hZ (hw _ (List.mem_of_getElem? (i := 12) rfl))) (mvT hZ (hw _ (List.mem_of_getElem? (i := 15) rfl))) (by decide) (backOf (W := 0) (rm3 l Z a0 hw [] r0 h0 n0 Z0 ) hZ (hw _ (List.mem_of_getElem? (i := 15) rfl)) (hw _ (List.mem_of_getElem? (i := 14) rfl)) (by decide) (by decide)) (g := (mkF m 1 #[.val (.ref r0), .val (.long q1), .second, .val (.int p2)] [(.ref r0)])) rfl (by rw [hml]; rfl) (Steps.refl _) (a := r0) (argsL := []) (rest := []) (lenOf pd1 rfl) rfl (by show 2 * 0 + _ ≤ _; exact Nat.le_of_eq rfl) (hb hby d5_1) (fun _ _ => ⟨rfl, e0, (by decide : 0 + 0 ≤ _), (by decide : 0 + 0 ≤ _)⟩)
  dsimp only [Pt.U, Pt.locs, Pt.cells, Pt.slots] at X101 l101 y101 z101 st101 hQ101
  subst l101 y101 z101
  obtain ⟨rfl, N101q, e101⟩ := hQ101
  have N101 := Fr.app N0 N101q
  obtain ⟨T102, h102, X102, e102, W102, st102⟩ := putF X101 hx hZ hown (host := "") (Or.inl (hw _ (List.mem_of_getElem? (i := 30) rfl))) Via.refl e101 F_bits_r0 E_r0 (Or.inr ⟨(hw _ (List.mem_of_getElem? (i := 31) rfl)), rfl, hnm⟩) (hw _ (List.mem_of_getElem? (i := 24) rfl)) (ty := .long) (by decide) rfl rfl (g := (mkF m 45 #[.val (.ref r0), .val (.long q1), .second, .val (.int p2)] [(.long q1), (.ref r0)])) rfl rfl (hb hby d5_45)
  have F103 := E_r0.wr W102
  have F104 := F_bits_r0.same W102
  have F105 := F_hashes_r0.other W102 (Or.inr (slot_ne (Or.inr (hw _ (List.mem_of_getElem? (i := 33) rfl))) (Or.inr (hw _ (List.mem_of_getElem? (i := 31) rfl))) (by decide) (t := .int) (t' := .long) (by decide) (by decide)))
  have Z106 : n0 ≤ h102.size := Nat.le_trans Z0 (Keep.of_wr W102).1
  have K107 : Keep h0 h102 [r0] := K0.wr W102 (Or.inl (List.mem_of_getElem? (i := 0) rfl))
  have N108 := Fr.snoc X102 N101 g_r0
  obtain ⟨T109, h109, X109, e109, W109, st109⟩ := putF X102 hx hZ hown (host := "") (Or.inl (hw _ (List.mem_of_getElem? (i := 32) rfl))) Via.refl e102 F105 F103 (Or.inr ⟨(hw _ (List.mem_of_getElem? (i := 33) rfl)), rfl, hnm⟩) (hw _ (List.mem_of_getElem? (i := 24) rfl)) (ty := .int) (by decide) rfl rfl (g := (mkF m 50 #[.val (.ref r0), .val (.long q1), .second, .val (.int p2)] [(.int p2), (.ref r0)])) rfl rfl (hb hby d5_50)
  have F110 := F103.wr W109
  have F111 := F104.other W109 (Or.inr (slot_ne (Or.inr (hw _ (List.mem_of_getElem? (i := 31) rfl))) (Or.inr (hw _ (List.mem_of_getElem? (i := 33) rfl))) (by decide) (t := .long) (t' := .int) (by decide) (by decide)))
  have F112 := F105.same W109
  have Z113 : n0 ≤ h109.size := Nat.le_trans Z106 (Keep.of_wr W109).1
  have K114 : Keep h0 h109 [r0] := K107.wr W109 (Or.inl (List.mem_of_getElem? (i := 0) rfl))
  have N115 := Fr.snoc X109 N108 g_r0
  have hgo116 : ∀ t, Steps p.tables e below (T109.setTop (mkF m 53 #[.val (.ref r0), .val (.long q1), .second, .val (.int p2)] [])) t → Steps p.tables e below (s₁.setTop (mkF m 0 #[.val (.ref r0), .val (.long q1), .second, .val (.int p2)] [])) t := by
    intro t kt
    show Steps p.tables e below (s₁.setTop (mkF m 0 #[.val (.ref r0), .val (.long q1), .second, .val (.int p2)] [])) _
    refine XS.aloadN X0.here hx rfl (hb hby d5_0) rfl rfl ?_
    show Steps p.tables e below (s₁.setTop (mkF m 1 #[.val (.ref r0), .val (.long q1), .second, .val (.int p2)] [(.ref r0)])) _
    refine st101.trans ?_
    show Steps p.tables e below (T101.setTop (mkF m 4 #[.val (.ref r0), .val (.long q1), .second, .val (.int p2)] [])) _
    refine XS.lloadN X101.here hx rfl (hb hby d5_4) rfl ?_
    show Steps p.tables e below (T101.setTop (mkF m 5 #[.val (.ref r0), .val (.long q1), .second, .val (.int p2)] [(.long q1)])) _
    refine XS.lconst X101.here hx rfl (hb hby d5_5) ?_
    show Steps p.tables e below (T101.setTop (mkF m 6 #[.val (.ref r0), .val (.long q1), .second, .val (.int p2)] [(.long (1 : Int64)), (.long q1)])) _
    refine XS.lcmp X101.here hx rfl (hb hby d5_6) rfl ?_
    show Steps p.tables e below (T101.setTop (mkF m 7 #[.val (.ref r0), .val (.long q1), .second, .val (.int p2)] [(.int (lcmpW q1 (1 : Int64)))])) _
    refine XS.ifYes X101.here hx rfl (pc0 := 7) (pc' := 24) rfl (hb hby d5_7) rfl ((if0 _ _).trans (flt (own_lc_nlt hb1)).2.1) (by decide) (by decide) ?_
    show Steps p.tables e below (T101.setTop (mkF m 24 #[.val (.ref r0), .val (.long q1), .second, .val (.int p2)] [])) _
    refine XS.iloadN X101.here hx rfl (hb hby d5_24) rfl ?_
    show Steps p.tables e below (T101.setTop (mkF m 25 #[.val (.ref r0), .val (.long q1), .second, .val (.int p2)] [(.int p2)])) _
    refine XS.iconst X101.here hx rfl (hb hby d5_25) ?_
    show Steps p.tables e below (T101.setTop (mkF m 26 #[.val (.ref r0), .val (.long q1), .second, .val (.int p2)] [(.int (1 : Int32)), (.int p2)])) _
    refine XS.icmpYes X101.here hx rfl (pc0 := 26) (pc' := 43) rfl (hb hby d5_26) rfl (flt hb2).2.1 (by decide) (by decide) ?_
    show Steps p.tables e below (T101.setTop (mkF m 43 #[.val (.ref r0), .val (.long q1), .second, .val (.int p2)] [])) _
    refine XS.aloadN X101.here hx rfl (hb hby d5_43) rfl rfl ?_
    show Steps p.tables e below (T101.setTop (mkF m 44 #[.val (.ref r0), .val (.long q1), .second, .val (.int p2)] [(.ref r0)])) _
    refine XS.lloadN X101.here hx rfl (hb hby d5_44) rfl ?_
    show Steps p.tables e below (T101.setTop (mkF m 45 #[.val (.ref r0), .val (.long q1), .second, .val (.int p2)] [(.long q1), (.ref r0)])) _
    refine st102 _ ?_
    show Steps p.tables e below (T102.setTop (mkF m 48 #[.val (.ref r0), .val (.long q1), .second, .val (.int p2)] [])) _
    refine XS.aloadN X102.here hx rfl (hb hby d5_48) rfl rfl ?_
    show Steps p.tables e below (T102.setTop (mkF m 49 #[.val (.ref r0), .val (.long q1), .second, .val (.int p2)] [(.ref r0)])) _
    refine XS.iloadN X102.here hx rfl (hb hby d5_49) rfl ?_
    show Steps p.tables e below (T102.setTop (mkF m 50 #[.val (.ref r0), .val (.long q1), .second, .val (.int p2)] [(.int p2), (.ref r0)])) _
    refine st109 _ ?_
    exact kt
  refine own_go hgo116 ?_
  exact own_retV X109 hx Bd.returns Bd.notSynchronized (hb hby d5_53) (by decide) (by decide) (by rw [e109]; exact ⟨(by rfl), N115, K114, F110, (by exact F111), (by exact F112)⟩)
theorem d7_0 : decode prog_12_method_6_code 0 = .ok (.aload_n 0, 1) := by decide +kernel
theorem d7_1 : decode prog_12_method_6_code 1 = .ok (.getfield 19, 3) := by decide +kernel
theorem d7_4 : decode prog_12_method_6_code 4 = .ok (.lreturn, 1) := by decide +kernel
theorem ef_7 (m : MethodId) (r0 : Addr) : entryFrame m #[(.ref r0)] 1 = mkF m 0 #[.val (.ref r0)] [] := by (first | (simp [entryFrame, mkF, argsToLocals, Value.category]; done) | rfl)
def Q7 (Z : State) (r0 : Addr) (w1 : Int64) (h0 : Heap) (n0 : Nat) (v : Option Value) (h : Heap) (L : List Loc) : Prop := v = some (.long w1) ∧ Fr n0 L ∧ h = h0
set_option maxRecDepth 65536 in
set_option maxHeartbeats 40000000 in
theorem rm7 (l : Launch) (Z : State) (a0 : Array Value) (hw : ∀ d ∈ tables_1, d.before a0 Z = true) (ws : List Jvm.Cond) (r0 : Addr) (w1 : Int64) (h0 : Heap) (n0 : Nat) (Z0 : n0 ≤ h0.size) (F_bits_r0 : Fld Z h0 r0 "com/example/upper_falls/upperfalls/FilterSize" "bits" "J" (.long w1)) :
    MetFree l (⟨"com/example/upper_falls/upperfalls/FilterSize", "bits", "()J"⟩ : MethodName) (head1 (Jvm.Cond.code (⟨"com/example/upper_falls/upperfalls/FilterSize", "bits", "()J"⟩ : MethodName) prog_12_method_6_code 1 (some .long) :: ws) ({ frames := 0, cells := 0, slots := 0, locals := 0 } : Room)) (fun a U => a = #[(.ref r0)] ∧ Z.Warmed39 U.vm ∧ U.heap = h0) (fun _ _ _ _ _ => True) (fun _ U o U' => ∃ v L, o = .returned v ∧ Q7 Z r0 w1 h0 n0 v U'.heap L ∧ FrameEnd U o U' L ({ frames := 0, cells := 0, slots := 0, locals := 0 } : Room).cells ({ frames := 0, cells := 0, slots := 0, locals := 0 } : Room).slots) := by
  refine MetFree.of_bodySF (plainFor_of_name pn3) hisR ?_
  intro p e s m args below meth c s₁ Bd hml0 hP hK
  obtain ⟨rfl, hZ, hh⟩ := hP
  have hx := Bd.exec
  have hby := Bd.bytes
  have hml : c.maxLocals = 1 := hml0
  have hown : s.vm.findClass "com/example/upper_falls/upperfalls/FilterSize" = some m.cls := findClass_of_methodNamed Bd.named
  have hnm := (name_of_methodNamed Bd.named Bd.method).1
  have X0 : Stand p l e ({ frames := 0, cells := 0, slots := 0, locals := 0 } : Room) s m #[(.ref r0)] below meth c s₁ [] 0 0 := Stand.of_body Bd
  have e0 : s₁.heap = h0 := by rw [← hh, Bd.state]; rfl
  have N0 := Fr.nil n0
  have K0 : Keep h0 h0 [] := Keep.refl h0 _
  show own_Go p e below s (Q7 Z r0 w1 h0 n0) ({ frames := 0, cells := 0, slots := 0, locals := 0 } : Room).cells ({ frames := 0, cells := 0, slots := 0, locals := 0 } : Room).slots (s₁.setTop (entryFrame m #[(.ref r0)] 1))
  refine own_go (fun t k => castTop (ef_7 m r0) k) ?_
  obtain ⟨T101, X101, e101, st101⟩ := getF X0 hx hZ hown (host := "") (Or.inl (hw _ (List.mem_of_getElem? (i := 30) rfl))) Via.refl e0 F_bits_r0 (g := (mkF m 1 #[.val (.ref r0)] [(.ref r0)])) rfl rfl (hb hby d7_1)
  have hgo102 : ∀ t, Steps p.tables e below (T101.setTop (mkF m 4 #[.val (.ref r0)] [(.long w1)])) t → Steps p.tables e below (s₁.setTop (mkF m 0 #[.val (.ref r0)] [])) t := by
    intro t kt
    show Steps p.tables e below (s₁.setTop (mkF m 0 #[.val (.ref r0)] [])) _
    refine XS.aloadN X0.here hx rfl (hb hby d7_0) rfl rfl ?_
    show Steps p.tables e below (s₁.setTop (mkF m 1 #[.val (.ref r0)] [(.ref r0)])) _
    refine st101 _ ?_
    exact kt
  refine own_go hgo102 ?_
  exact own_retJ X101 hx Bd.returns Bd.notSynchronized (hb hby d7_4) (by decide) (by decide) (by rw [e101]; exact ⟨(by rfl), N0, rfl⟩)
theorem d8_0 : decode prog_12_method_7_code 0 = .ok (.aload_n 0, 1) := by decide +kernel
theorem d8_1 : decode prog_12_method_7_code 1 = .ok (.getfield 25, 3) := by decide +kernel
theorem d8_4 : decode prog_12_method_7_code 4 = .ok (.ireturn, 1) := by decide +kernel
theorem ef_8 (m : MethodId) (r0 : Addr) : entryFrame m #[(.ref r0)] 1 = mkF m 0 #[.val (.ref r0)] [] := by (first | (simp [entryFrame, mkF, argsToLocals, Value.category]; done) | rfl)
def Q8 (Z : State) (r0 : Addr) (w1 : Int32) (h0 : Heap) (n0 : Nat) (v : Option Value) (h : Heap) (L : List Loc) : Prop := v = some (.int w1) ∧ Fr n0 L ∧ h = h0
set_option maxRecDepth 65536 in
set_option maxHeartbeats 40000000 in
theorem rm8 (l : Launch) (Z : State) (a0 : Array Value) (hw : ∀ d ∈ tables_1, d.before a0 Z = true) (ws : List Jvm.Cond) (r0 : Addr) (w1 : Int32) (h0 : Heap) (n0 : Nat) (Z0 : n0 ≤ h0.size) (F_hashes_r0 : Fld Z h0 r0 "com/example/upper_falls/upperfalls/FilterSize" "hashes" "I" (.int w1)) :
    MetFree l (⟨"com/example/upper_falls/upperfalls/FilterSize", "hashes", "()I"⟩ : MethodName) (head1 (Jvm.Cond.code (⟨"com/example/upper_falls/upperfalls/FilterSize", "hashes", "()I"⟩ : MethodName) prog_12_method_7_code 1 (some .int) :: ws) ({ frames := 0, cells := 0, slots := 0, locals := 0 } : Room)) (fun a U => a = #[(.ref r0)] ∧ Z.Warmed39 U.vm ∧ U.heap = h0) (fun _ _ _ _ _ => True) (fun _ U o U' => ∃ v L, o = .returned v ∧ Q8 Z r0 w1 h0 n0 v U'.heap L ∧ FrameEnd U o U' L ({ frames := 0, cells := 0, slots := 0, locals := 0 } : Room).cells ({ frames := 0, cells := 0, slots := 0, locals := 0 } : Room).slots) := by
  refine MetFree.of_bodySF (plainFor_of_name pn3) hisR ?_
  intro p e s m args below meth c s₁ Bd hml0 hP hK
  obtain ⟨rfl, hZ, hh⟩ := hP
  have hx := Bd.exec
  have hby := Bd.bytes
  have hml : c.maxLocals = 1 := hml0
  have hown : s.vm.findClass "com/example/upper_falls/upperfalls/FilterSize" = some m.cls := findClass_of_methodNamed Bd.named
  have hnm := (name_of_methodNamed Bd.named Bd.method).1
  have X0 : Stand p l e ({ frames := 0, cells := 0, slots := 0, locals := 0 } : Room) s m #[(.ref r0)] below meth c s₁ [] 0 0 := Stand.of_body Bd
  have e0 : s₁.heap = h0 := by rw [← hh, Bd.state]; rfl
  have N0 := Fr.nil n0
  have K0 : Keep h0 h0 [] := Keep.refl h0 _
  show own_Go p e below s (Q8 Z r0 w1 h0 n0) ({ frames := 0, cells := 0, slots := 0, locals := 0 } : Room).cells ({ frames := 0, cells := 0, slots := 0, locals := 0 } : Room).slots (s₁.setTop (entryFrame m #[(.ref r0)] 1))
  refine own_go (fun t k => castTop (ef_8 m r0) k) ?_
  obtain ⟨T101, X101, e101, st101⟩ := getF X0 hx hZ hown (host := "") (Or.inl (hw _ (List.mem_of_getElem? (i := 32) rfl))) Via.refl e0 F_hashes_r0 (g := (mkF m 1 #[.val (.ref r0)] [(.ref r0)])) rfl rfl (hb hby d8_1)
  have hgo102 : ∀ t, Steps p.tables e below (T101.setTop (mkF m 4 #[.val (.ref r0)] [(.int w1)])) t → Steps p.tables e below (s₁.setTop (mkF m 0 #[.val (.ref r0)] [])) t := by
    intro t kt
    show Steps p.tables e below (s₁.setTop (mkF m 0 #[.val (.ref r0)] [])) _
    refine XS.aloadN X0.here hx rfl (hb hby d8_0) rfl rfl ?_
    show Steps p.tables e below (s₁.setTop (mkF m 1 #[.val (.ref r0)] [(.ref r0)])) _
    refine st101 _ ?_
    exact kt
  refine own_go hgo102 ?_
  exact own_retI X101 hx Bd.returns Bd.notSynchronized (hb hby d8_4) (by decide) (by decide) (by rw [e101]; exact ⟨(by rfl), N0, rfl⟩)
theorem d9_0 : decode prog_14_method_10_code 0 = .ok (.aload_n 0, 1) := by decide +kernel
theorem d9_1 : decode prog_14_method_10_code 1 = .ok (.getfield 7, 3) := by decide +kernel
theorem d9_4 : decode prog_14_method_10_code 4 = .ok (.lreturn, 1) := by decide +kernel
theorem ef_9 (m : MethodId) (r0 : Addr) : entryFrame m #[(.ref r0)] 1 = mkF m 0 #[.val (.ref r0)] [] := by (first | (simp [entryFrame, mkF, argsToLocals, Value.category]; done) | rfl)
def Q9 (Z : State) (r0 : Addr) (w1 : Int64) (h0 : Heap) (n0 : Nat) (v : Option Value) (h : Heap) (L : List Loc) : Prop := v = some (.long w1) ∧ Fr n0 L ∧ h = h0
set_option maxRecDepth 65536 in
set_option maxHeartbeats 40000000 in
theorem rm9 (l : Launch) (Z : State) (a0 : Array Value) (hw : ∀ d ∈ tables_1, d.before a0 Z = true) (ws : List Jvm.Cond) (r0 : Addr) (w1 : Int64) (h0 : Heap) (n0 : Nat) (Z0 : n0 ≤ h0.size) (F_h1_r0 : Fld Z h0 r0 "com/example/upper_falls/upperfalls/KeyHash" "h1" "J" (.long w1)) :
    MetFree l (⟨"com/example/upper_falls/upperfalls/KeyHash", "h1", "()J"⟩ : MethodName) (head1 (Jvm.Cond.code (⟨"com/example/upper_falls/upperfalls/KeyHash", "h1", "()J"⟩ : MethodName) prog_14_method_10_code 1 (some .long) :: ws) ({ frames := 0, cells := 0, slots := 0, locals := 0 } : Room)) (fun a U => a = #[(.ref r0)] ∧ Z.Warmed39 U.vm ∧ U.heap = h0) (fun _ _ _ _ _ => True) (fun _ U o U' => ∃ v L, o = .returned v ∧ Q9 Z r0 w1 h0 n0 v U'.heap L ∧ FrameEnd U o U' L ({ frames := 0, cells := 0, slots := 0, locals := 0 } : Room).cells ({ frames := 0, cells := 0, slots := 0, locals := 0 } : Room).slots) := by
  refine MetFree.of_bodySF (plainFor_of_name pn2) hisR ?_
  intro p e s m args below meth c s₁ Bd hml0 hP hK
  obtain ⟨rfl, hZ, hh⟩ := hP
  have hx := Bd.exec
  have hby := Bd.bytes
  have hml : c.maxLocals = 1 := hml0
  have hown : s.vm.findClass "com/example/upper_falls/upperfalls/KeyHash" = some m.cls := findClass_of_methodNamed Bd.named
  have hnm := (name_of_methodNamed Bd.named Bd.method).1
  have X0 : Stand p l e ({ frames := 0, cells := 0, slots := 0, locals := 0 } : Room) s m #[(.ref r0)] below meth c s₁ [] 0 0 := Stand.of_body Bd
  have e0 : s₁.heap = h0 := by rw [← hh, Bd.state]; rfl
  have N0 := Fr.nil n0
  have K0 : Keep h0 h0 [] := Keep.refl h0 _
  show own_Go p e below s (Q9 Z r0 w1 h0 n0) ({ frames := 0, cells := 0, slots := 0, locals := 0 } : Room).cells ({ frames := 0, cells := 0, slots := 0, locals := 0 } : Room).slots (s₁.setTop (entryFrame m #[(.ref r0)] 1))
  refine own_go (fun t k => castTop (ef_9 m r0) k) ?_
  obtain ⟨T101, X101, e101, st101⟩ := getF X0 hx hZ hown (host := "") (Or.inl (hw _ (List.mem_of_getElem? (i := 19) rfl))) Via.refl e0 F_h1_r0 (g := (mkF m 1 #[.val (.ref r0)] [(.ref r0)])) rfl rfl (hb hby d9_1)
  have hgo102 : ∀ t, Steps p.tables e below (T101.setTop (mkF m 4 #[.val (.ref r0)] [(.long w1)])) t → Steps p.tables e below (s₁.setTop (mkF m 0 #[.val (.ref r0)] [])) t := by
    intro t kt
    show Steps p.tables e below (s₁.setTop (mkF m 0 #[.val (.ref r0)] [])) _
    refine XS.aloadN X0.here hx rfl (hb hby d9_0) rfl rfl ?_
    show Steps p.tables e below (s₁.setTop (mkF m 1 #[.val (.ref r0)] [(.ref r0)])) _
    refine st101 _ ?_
    exact kt
  refine own_go hgo102 ?_
  exact own_retJ X101 hx Bd.returns Bd.notSynchronized (hb hby d9_4) (by decide) (by decide) (by rw [e101]; exact ⟨(by rfl), N0, rfl⟩)
theorem d11_0 : decode prog_14_method_11_code 0 = .ok (.aload_n 0, 1) := by decide +kernel
theorem d11_1 : decode prog_14_method_11_code 1 = .ok (.getfield 13, 3) := by decide +kernel
theorem d11_4 : decode prog_14_method_11_code 4 = .ok (.lreturn, 1) := by decide +kernel
theorem ef_11 (m : MethodId) (r0 : Addr) : entryFrame m #[(.ref r0)] 1 = mkF m 0 #[.val (.ref r0)] [] := by (first | (simp [entryFrame, mkF, argsToLocals, Value.category]; done) | rfl)
def Q11 (Z : State) (r0 : Addr) (w1 : Int64) (h0 : Heap) (n0 : Nat) (v : Option Value) (h : Heap) (L : List Loc) : Prop := v = some (.long w1) ∧ Fr n0 L ∧ h = h0
set_option maxRecDepth 65536 in
set_option maxHeartbeats 40000000 in
theorem rm11 (l : Launch) (Z : State) (a0 : Array Value) (hw : ∀ d ∈ tables_1, d.before a0 Z = true) (ws : List Jvm.Cond) (r0 : Addr) (w1 : Int64) (h0 : Heap) (n0 : Nat) (Z0 : n0 ≤ h0.size) (F_h2_r0 : Fld Z h0 r0 "com/example/upper_falls/upperfalls/KeyHash" "h2" "J" (.long w1)) :
    MetFree l (⟨"com/example/upper_falls/upperfalls/KeyHash", "h2", "()J"⟩ : MethodName) (head1 (Jvm.Cond.code (⟨"com/example/upper_falls/upperfalls/KeyHash", "h2", "()J"⟩ : MethodName) prog_14_method_11_code 1 (some .long) :: ws) ({ frames := 0, cells := 0, slots := 0, locals := 0 } : Room)) (fun a U => a = #[(.ref r0)] ∧ Z.Warmed39 U.vm ∧ U.heap = h0) (fun _ _ _ _ _ => True) (fun _ U o U' => ∃ v L, o = .returned v ∧ Q11 Z r0 w1 h0 n0 v U'.heap L ∧ FrameEnd U o U' L ({ frames := 0, cells := 0, slots := 0, locals := 0 } : Room).cells ({ frames := 0, cells := 0, slots := 0, locals := 0 } : Room).slots) := by
  refine MetFree.of_bodySF (plainFor_of_name pn2) hisR ?_
  intro p e s m args below meth c s₁ Bd hml0 hP hK
  obtain ⟨rfl, hZ, hh⟩ := hP
  have hx := Bd.exec
  have hby := Bd.bytes
  have hml : c.maxLocals = 1 := hml0
  have hown : s.vm.findClass "com/example/upper_falls/upperfalls/KeyHash" = some m.cls := findClass_of_methodNamed Bd.named
  have hnm := (name_of_methodNamed Bd.named Bd.method).1
  have X0 : Stand p l e ({ frames := 0, cells := 0, slots := 0, locals := 0 } : Room) s m #[(.ref r0)] below meth c s₁ [] 0 0 := Stand.of_body Bd
  have e0 : s₁.heap = h0 := by rw [← hh, Bd.state]; rfl
  have N0 := Fr.nil n0
  have K0 : Keep h0 h0 [] := Keep.refl h0 _
  show own_Go p e below s (Q11 Z r0 w1 h0 n0) ({ frames := 0, cells := 0, slots := 0, locals := 0 } : Room).cells ({ frames := 0, cells := 0, slots := 0, locals := 0 } : Room).slots (s₁.setTop (entryFrame m #[(.ref r0)] 1))
  refine own_go (fun t k => castTop (ef_11 m r0) k) ?_
  obtain ⟨T101, X101, e101, st101⟩ := getF X0 hx hZ hown (host := "") (Or.inl (hw _ (List.mem_of_getElem? (i := 21) rfl))) Via.refl e0 F_h2_r0 (g := (mkF m 1 #[.val (.ref r0)] [(.ref r0)])) rfl rfl (hb hby d11_1)
  have hgo102 : ∀ t, Steps p.tables e below (T101.setTop (mkF m 4 #[.val (.ref r0)] [(.long w1)])) t → Steps p.tables e below (s₁.setTop (mkF m 0 #[.val (.ref r0)] [])) t := by
    intro t kt
    show Steps p.tables e below (s₁.setTop (mkF m 0 #[.val (.ref r0)] [])) _
    refine XS.aloadN X0.here hx rfl (hb hby d11_0) rfl rfl ?_
    show Steps p.tables e below (s₁.setTop (mkF m 1 #[.val (.ref r0)] [(.ref r0)])) _
    refine st101 _ ?_
    exact kt
  refine own_go hgo102 ?_
  exact own_retJ X101 hx Bd.returns Bd.notSynchronized (hb hby d11_4) (by decide) (by decide) (by rw [e101]; exact ⟨(by rfl), N0, rfl⟩)
theorem d10_0 : decode jdk_35_method_45_code 0 = .ok (.lload_n 2, 1) := by decide +kernel
theorem d10_1 : decode jdk_35_method_45_code 1 = .ok (.lconst 0, 1) := by decide +kernel
theorem d10_2 : decode jdk_35_method_45_code 2 = .ok (.lcmp, 1) := by decide +kernel
theorem d10_3 : decode jdk_35_method_45_code 3 = .ok (.ifCond .lt 37, 3) := by decide +kernel
theorem d10_6 : decode jdk_35_method_45_code 6 = .ok (.lload_n 0, 1) := by decide +kernel
theorem d10_7 : decode jdk_35_method_45_code 7 = .ok (.iconst 1, 1) := by decide +kernel
theorem d10_8 : decode jdk_35_method_45_code 8 = .ok (.lushr, 1) := by decide +kernel
theorem d10_9 : decode jdk_35_method_45_code 9 = .ok (.lload_n 2, 1) := by decide +kernel
theorem d10_10 : decode jdk_35_method_45_code 10 = .ok (.ldiv, 1) := by decide +kernel
theorem d10_11 : decode jdk_35_method_45_code 11 = .ok (.iconst 1, 1) := by decide +kernel
theorem d10_12 : decode jdk_35_method_45_code 12 = .ok (.lshl, 1) := by decide +kernel
theorem d10_13 : decode jdk_35_method_45_code 13 = .ok (.lstore 4, 2) := by decide +kernel
theorem d10_15 : decode jdk_35_method_45_code 15 = .ok (.lload_n 0, 1) := by decide +kernel
theorem d10_16 : decode jdk_35_method_45_code 16 = .ok (.lload 4, 2) := by decide +kernel
theorem d10_18 : decode jdk_35_method_45_code 18 = .ok (.lload_n 2, 1) := by decide +kernel
theorem d10_19 : decode jdk_35_method_45_code 19 = .ok (.lmul, 1) := by decide +kernel
theorem d10_20 : decode jdk_35_method_45_code 20 = .ok (.lsub, 1) := by decide +kernel
theorem d10_21 : decode jdk_35_method_45_code 21 = .ok (.lstore 6, 2) := by decide +kernel
theorem d10_23 : decode jdk_35_method_45_code 23 = .ok (.lload 6, 2) := by decide +kernel
theorem d10_25 : decode jdk_35_method_45_code 25 = .ok (.lload 6, 2) := by decide +kernel
theorem d10_27 : decode jdk_35_method_45_code 27 = .ok (.lload_n 2, 1) := by decide +kernel
theorem d10_28 : decode jdk_35_method_45_code 28 = .ok (.lsub, 1) := by decide +kernel
theorem d10_29 : decode jdk_35_method_45_code 29 = .ok (.ldc2_w 306, 3) := by decide +kernel
theorem d10_32 : decode jdk_35_method_45_code 32 = .ok (.lxor, 1) := by decide +kernel
theorem d10_33 : decode jdk_35_method_45_code 33 = .ok (.bipush 63, 2) := by decide +kernel
theorem d10_35 : decode jdk_35_method_45_code 35 = .ok (.lshr, 1) := by decide +kernel
theorem d10_36 : decode jdk_35_method_45_code 36 = .ok (.lload_n 2, 1) := by decide +kernel
theorem d10_37 : decode jdk_35_method_45_code 37 = .ok (.land, 1) := by decide +kernel
theorem d10_38 : decode jdk_35_method_45_code 38 = .ok (.lsub, 1) := by decide +kernel
theorem d10_39 : decode jdk_35_method_45_code 39 = .ok (.lreturn, 1) := by decide +kernel
theorem d10_40 : decode jdk_35_method_45_code 40 = .ok (.lload_n 0, 1) := by decide +kernel
theorem d10_41 : decode jdk_35_method_45_code 41 = .ok (.lload_n 0, 1) := by decide +kernel
theorem d10_42 : decode jdk_35_method_45_code 42 = .ok (.lload_n 0, 1) := by decide +kernel
theorem d10_43 : decode jdk_35_method_45_code 43 = .ok (.lload_n 2, 1) := by decide +kernel
theorem d10_44 : decode jdk_35_method_45_code 44 = .ok (.lsub, 1) := by decide +kernel
theorem d10_45 : decode jdk_35_method_45_code 45 = .ok (.ldc2_w 306, 3) := by decide +kernel
theorem d10_48 : decode jdk_35_method_45_code 48 = .ok (.lxor, 1) := by decide +kernel
theorem d10_49 : decode jdk_35_method_45_code 49 = .ok (.land, 1) := by decide +kernel
theorem d10_50 : decode jdk_35_method_45_code 50 = .ok (.bipush 63, 2) := by decide +kernel
theorem d10_52 : decode jdk_35_method_45_code 52 = .ok (.lshr, 1) := by decide +kernel
theorem d10_53 : decode jdk_35_method_45_code 53 = .ok (.lload_n 2, 1) := by decide +kernel
theorem d10_54 : decode jdk_35_method_45_code 54 = .ok (.land, 1) := by decide +kernel
theorem d10_55 : decode jdk_35_method_45_code 55 = .ok (.lsub, 1) := by decide +kernel
theorem d10_56 : decode jdk_35_method_45_code 56 = .ok (.lreturn, 1) := by decide +kernel
theorem ef_10 (m : MethodId) (q0 : Int64) (q1 : Int64) : entryFrame m #[(.long q0), (.long q1)] 8 = mkF m 0 #[.val (.long q0), .second, .val (.long q1), .second, .unset, .unset, .unset, .unset] [] := by (first | (simp [entryFrame, mkF, argsToLocals, Value.category]; done) | rfl)
def own_r10 (q0 : Int64) (q1 : Int64) : Int64 := (if q1 < (0 : Int64) then (q0 - (((q0 &&& ((q0 - q1) ^^^ (-1 : Int64))) >>> ((63 : Int32) &&& 0x3f).toInt64) &&& q1)) else ((q0 - (((((q0.toUInt64 >>> ((1 : Int32) &&& 0x3f).toInt64.toUInt64).toInt64) / q1) <<< ((1 : Int32) &&& 0x3f).toInt64) * q1)) - (((((q0 - (((((q0.toUInt64 >>> ((1 : Int32) &&& 0x3f).toInt64.toUInt64).toInt64) / q1) <<< ((1 : Int32) &&& 0x3f).toInt64) * q1)) - q1) ^^^ (-1 : Int64)) >>> ((63 : Int32) &&& 0x3f).toInt64) &&& q1)))
theorem pn4 : plainName "java/lang/Long" = true := by first | (simp [plainName, overriddenIn]; done) | decide +kernel
def Q10 (Z : State) (q0 : Int64) (q1 : Int64) (h0 : Heap) (n0 : Nat) (v : Option Value) (h : Heap) (L : List Loc) : Prop := v = some (.long (own_r10 q0 q1)) ∧ Fr n0 L ∧ h = h0
set_option maxRecDepth 65536 in
set_option maxHeartbeats 40000000 in
theorem rm10 (l : Launch) (Z : State) (a0 : Array Value) (hw : ∀ d ∈ tables_1, d.before a0 Z = true) (ws : List Jvm.Cond) (q0 : Int64) (q1 : Int64) (h0 : Heap) (n0 : Nat) (Z0 : n0 ≤ h0.size) (hz1 : ¬ (q1 = (0 : Int64))) :
    MetFree l (⟨"java/lang/Long", "remainderUnsigned", "(JJ)J"⟩ : MethodName) (head1 (Jvm.Cond.code (⟨"java/lang/Long", "remainderUnsigned", "(JJ)J"⟩ : MethodName) jdk_35_method_45_code 8 (some .long) :: ws) ({ frames := 0, cells := 0, slots := 0, locals := 0 } : Room)) (fun a U => a = #[(.long q0), (.long q1)] ∧ Z.Warmed39 U.vm ∧ U.heap = h0) (fun _ _ _ _ _ => True) (fun _ U o U' => ∃ v L, o = .returned v ∧ Q10 Z q0 q1 h0 n0 v U'.heap L ∧ FrameEnd U o U' L ({ frames := 0, cells := 0, slots := 0, locals := 0 } : Room).cells ({ frames := 0, cells := 0, slots := 0, locals := 0 } : Room).slots) := by
  refine MetFree.of_bodySF (plainFor_of_name pn4) hisR ?_
  intro p e s m args below meth c s₁ Bd hml0 hP hK
  obtain ⟨rfl, hZ, hh⟩ := hP
  have hx := Bd.exec
  have hby := Bd.bytes
  have hml : c.maxLocals = 8 := hml0
  have hown : s.vm.findClass "java/lang/Long" = some m.cls := findClass_of_methodNamed Bd.named
  have hnm := (name_of_methodNamed Bd.named Bd.method).1
  have X0 : Stand p l e ({ frames := 0, cells := 0, slots := 0, locals := 0 } : Room) s m #[(.long q0), (.long q1)] below meth c s₁ [] 0 0 := Stand.of_body Bd
  have e0 : s₁.heap = h0 := by rw [← hh, Bd.state]; rfl
  have N0 := Fr.nil n0
  have K0 : Keep h0 h0 [] := Keep.refl h0 _
  show own_Go p e below s (Q10 Z q0 q1 h0 n0) ({ frames := 0, cells := 0, slots := 0, locals := 0 } : Room).cells ({ frames := 0, cells := 0, slots := 0, locals := 0 } : Room).slots (s₁.setTop (entryFrame m #[(.long q0), (.long q1)] 8))
  refine own_go (fun t k => castTop (ef_10 m q0 q1) k) ?_
  have hgo101 : ∀ t, Steps p.tables e below (s₁.setTop (mkF m 3 #[.val (.long q0), .second, .val (.long q1), .second, .unset, .unset, .unset, .unset] [(.int (lcmpW q1 (0 : Int64)))])) t → Steps p.tables e below (s₁.setTop (mkF m 0 #[.val (.long q0), .second, .val (.long q1), .second, .unset, .unset, .unset, .unset] [])) t := by
    intro t kt
    show Steps p.tables e below (s₁.setTop (mkF m 0 #[.val (.long q0), .second, .val (.long q1), .second, .unset, .unset, .unset, .unset] [])) _
    refine XS.lloadN X0.here hx rfl (hb hby d10_0) rfl ?_
    show Steps p.tables e below (s₁.setTop (mkF m 1 #[.val (.long q0), .second, .val (.long q1), .second, .unset, .unset, .unset, .unset] [(.long q1)])) _
    refine XS.lconst X0.here hx rfl (hb hby d10_1) ?_
    show Steps p.tables e below (s₁.setTop (mkF m 2 #[.val (.long q0), .second, .val (.long q1), .second, .unset, .unset, .unset, .unset] [(.long (0 : Int64)), (.long q1)])) _
    refine XS.lcmp X0.here hx rfl (hb hby d10_2) rfl ?_
    exact kt
  refine own_go hgo101 ?_
  by_cases hc3_1 : q1 < (0 : Int64)
  · obtain ⟨v2, hv2⟩ : ∃ z : Int64, z = (q0 - (((q0 &&& ((q0 - q1) ^^^ (-1 : Int64))) >>> ((63 : Int32) &&& 0x3f).toInt64) &&& q1)) := ⟨_, rfl⟩
    have hgo102 : ∀ t, Steps p.tables e below (s₁.setTop (mkF m 56 #[.val (.long q0), .second, .val (.long q1), .second, .unset, .unset, .unset, .unset] [(.long v2)])) t → Steps p.tables e below (s₁.setTop (mkF m 3 #[.val (.long q0), .second, .val (.long q1), .second, .unset, .unset, .unset, .unset] [(.int (lcmpW q1 (0 : Int64)))])) t := by
      intro t kt
      show Steps p.tables e below (s₁.setTop (mkF m 3 #[.val (.long q0), .second, .val (.long q1), .second, .unset, .unset, .unset, .unset] [(.int (lcmpW q1 (0 : Int64)))])) _
      refine XS.ifYes X0.here hx rfl (pc0 := 3) (pc' := 40) rfl (hb hby d10_3) rfl ((if0 _ _).trans (tlt (own_lc_lt hc3_1)).1) (by decide) (by decide) ?_
      show Steps p.tables e below (s₁.setTop (mkF m 40 #[.val (.long q0), .second, .val (.long q1), .second, .unset, .unset, .unset, .unset] [])) _
      refine XS.lloadN X0.here hx rfl (hb hby d10_40) rfl ?_
      show Steps p.tables e below (s₁.setTop (mkF m 41 #[.val (.long q0), .second, .val (.long q1), .second, .unset, .unset, .unset, .unset] [(.long q0)])) _
      refine XS.lloadN X0.here hx rfl (hb hby d10_41) rfl ?_
      show Steps p.tables e below (s₁.setTop (mkF m 42 #[.val (.long q0), .second, .val (.long q1), .second, .unset, .unset, .unset, .unset] [(.long q0), (.long q0)])) _
      refine XS.lloadN X0.here hx rfl (hb hby d10_42) rfl ?_
      show Steps p.tables e below (s₁.setTop (mkF m 43 #[.val (.long q0), .second, .val (.long q1), .second, .unset, .unset, .unset, .unset] [(.long q0), (.long q0), (.long q0)])) _
      refine XS.lloadN X0.here hx rfl (hb hby d10_43) rfl ?_
      show Steps p.tables e below (s₁.setTop (mkF m 44 #[.val (.long q0), .second, .val (.long q1), .second, .unset, .unset, .unset, .unset] [(.long q1), (.long q0), (.long q0), (.long q0)])) _
      refine XS.lsub X0.here hx rfl (hb hby d10_44) rfl ?_
      show Steps p.tables e below (s₁.setTop (mkF m 45 #[.val (.long q0), .second, .val (.long q1), .second, .unset, .unset, .unset, .unset] [(.long (q0 - q1)), (.long q0), (.long q0)])) _
      refine X0.ldc2Long hx hown (mvT hZ (hw _ (List.mem_of_getElem? (i := 64) rfl))) (g := (mkF m 45 #[.val (.long q0), .second, .val (.long q1), .second, .unset, .unset, .unset, .unset] [(.long (q0 - q1)), (.long q0), (.long q0)])) rfl (hb hby d10_45) _ ?_
      show Steps p.tables e below (s₁.setTop (mkF m 48 #[.val (.long q0), .second, .val (.long q1), .second, .unset, .unset, .unset, .unset] [(.long (-1 : Int64)), (.long (q0 - q1)), (.long q0), (.long q0)])) _
      refine XS.lxor X0.here hx rfl (hb hby d10_48) rfl ?_
      show Steps p.tables e below (s₁.setTop (mkF m 49 #[.val (.long q0), .second, .val (.long q1), .second, .unset, .unset, .unset, .unset] [(.long ((q0 - q1) ^^^ (-1 : Int64))), (.long q0), (.long q0)])) _
      refine XS.land X0.here hx rfl (hb hby d10_49) rfl ?_
      show Steps p.tables e below (s₁.setTop (mkF m 50 #[.val (.long q0), .second, .val (.long q1), .second, .unset, .unset, .unset, .unset] [(.long (q0 &&& ((q0 - q1) ^^^ (-1 : Int64)))), (.long q0)])) _
      refine XS.bipush X0.here hx rfl (hb hby d10_50) ?_
      show Steps p.tables e below (s₁.setTop (mkF m 52 #[.val (.long q0), .second, .val (.long q1), .second, .unset, .unset, .unset, .unset] [(.int (63 : Int32)), (.long (q0 &&& ((q0 - q1) ^^^ (-1 : Int64)))), (.long q0)])) _
      refine XS.lshr X0.here hx rfl (hb hby d10_52) rfl ?_
      show Steps p.tables e below (s₁.setTop (mkF m 53 #[.val (.long q0), .second, .val (.long q1), .second, .unset, .unset, .unset, .unset] [(.long ((q0 &&& ((q0 - q1) ^^^ (-1 : Int64))) >>> ((63 : Int32) &&& 0x3f).toInt64)), (.long q0)])) _
      refine XS.lloadN X0.here hx rfl (hb hby d10_53) rfl ?_
      show Steps p.tables e below (s₁.setTop (mkF m 54 #[.val (.long q0), .second, .val (.long q1), .second, .unset, .unset, .unset, .unset] [(.long q1), (.long ((q0 &&& ((q0 - q1) ^^^ (-1 : Int64))) >>> ((63 : Int32) &&& 0x3f).toInt64)), (.long q0)])) _
      refine XS.land X0.here hx rfl (hb hby d10_54) rfl ?_
      show Steps p.tables e below (s₁.setTop (mkF m 55 #[.val (.long q0), .second, .val (.long q1), .second, .unset, .unset, .unset, .unset] [(.long (((q0 &&& ((q0 - q1) ^^^ (-1 : Int64))) >>> ((63 : Int32) &&& 0x3f).toInt64) &&& q1)), (.long q0)])) _
      refine XS.lsub X0.here hx rfl (hb hby d10_55) rfl ?_
      rw [← hv2]
      exact kt
    refine own_go hgo102 ?_
    exact own_retJ X0 hx Bd.returns Bd.notSynchronized (hb hby d10_56) (by decide) (by decide) (by rw [e0]; exact ⟨(by subst hv2; rw [own_r10, if_pos hc3_1]), N0, rfl⟩)
  · have hnz10_103 : ¬ (q1 = (0 : Int64)) := hz1
    obtain ⟨v3, hv3⟩ : ∃ z : Int64, z = ((((q0.toUInt64 >>> ((1 : Int32) &&& 0x3f).toInt64.toUInt64).toInt64) / q1) <<< ((1 : Int32) &&& 0x3f).toInt64) := ⟨_, rfl⟩
    obtain ⟨v4, hv4⟩ : ∃ z : Int64, z = (q0 - (v3 * q1)) := ⟨_, rfl⟩
    obtain ⟨v5, hv5⟩ : ∃ z : Int64, z = (v4 - ((((v4 - q1) ^^^ (-1 : Int64)) >>> ((63 : Int32) &&& 0x3f).toInt64) &&& q1)) := ⟨_, rfl⟩
    have hgo104 : ∀ t, Steps p.tables e below (s₁.setTop (mkF m 39 #[.val (.long q0), .second, .val (.long q1), .second, .val (.long v3), .second, .val (.long v4), .second] [(.long v5)])) t → Steps p.tables e below (s₁.setTop (mkF m 3 #[.val (.long q0), .second, .val (.long q1), .second, .unset, .unset, .unset, .unset] [(.int (lcmpW q1 (0 : Int64)))])) t := by
      intro t kt
      show Steps p.tables e below (s₁.setTop (mkF m 3 #[.val (.long q0), .second, .val (.long q1), .second, .unset, .unset, .unset, .unset] [(.int (lcmpW q1 (0 : Int64)))])) _
      refine XS.ifNo X0.here hx rfl (hb hby d10_3) rfl ((if0 _ _).trans (flt (own_lc_nlt hc3_1)).1) ?_
      show Steps p.tables e below (s₁.setTop (mkF m 6 #[.val (.long q0), .second, .val (.long q1), .second, .unset, .unset, .unset, .unset] [])) _
      refine XS.lloadN X0.here hx rfl (hb hby d10_6) rfl ?_
      show Steps p.tables e below (s₁.setTop (mkF m 7 #[.val (.long q0), .second, .val (.long q1), .second, .unset, .unset, .unset, .unset] [(.long q0)])) _
      refine XS.iconst X0.here hx rfl (hb hby d10_7) ?_
      show Steps p.tables e below (s₁.setTop (mkF m 8 #[.val (.long q0), .second, .val (.long q1), .second, .unset, .unset, .unset, .unset] [(.int (1 : Int32)), (.long q0)])) _
      refine XS.lushr X0.here hx rfl (hb hby d10_8) rfl ?_
      show Steps p.tables e below (s₁.setTop (mkF m 9 #[.val (.long q0), .second, .val (.long q1), .second, .unset, .unset, .unset, .unset] [(.long ((q0.toUInt64 >>> ((1 : Int32) &&& 0x3f).toInt64.toUInt64).toInt64))])) _
      refine XS.lloadN X0.here hx rfl (hb hby d10_9) rfl ?_
      show Steps p.tables e below (s₁.setTop (mkF m 10 #[.val (.long q0), .second, .val (.long q1), .second, .unset, .unset, .unset, .unset] [(.long q1), (.long ((q0.toUInt64 >>> ((1 : Int32) &&& 0x3f).toInt64.toUInt64).toInt64))])) _
      refine XS.ldiv X0.here hx rfl (hb hby d10_10) rfl hnz10_103 ?_
      show Steps p.tables e below (s₁.setTop (mkF m 11 #[.val (.long q0), .second, .val (.long q1), .second, .unset, .unset, .unset, .unset] [(.long (((q0.toUInt64 >>> ((1 : Int32) &&& 0x3f).toInt64.toUInt64).toInt64) / q1))])) _
      refine XS.iconst X0.here hx rfl (hb hby d10_11) ?_
      show Steps p.tables e below (s₁.setTop (mkF m 12 #[.val (.long q0), .second, .val (.long q1), .second, .unset, .unset, .unset, .unset] [(.int (1 : Int32)), (.long (((q0.toUInt64 >>> ((1 : Int32) &&& 0x3f).toInt64.toUInt64).toInt64) / q1))])) _
      refine XS.lshl X0.here hx rfl (hb hby d10_12) rfl ?_
      show Steps p.tables e below (s₁.setTop (mkF m 13 #[.val (.long q0), .second, .val (.long q1), .second, .unset, .unset, .unset, .unset] [(.long ((((q0.toUInt64 >>> ((1 : Int32) &&& 0x3f).toInt64.toUInt64).toInt64) / q1) <<< ((1 : Int32) &&& 0x3f).toInt64))])) _
      rw [← hv3]
      show Steps p.tables e below (s₁.setTop (mkF m 13 #[.val (.long q0), .second, .val (.long q1), .second, .unset, .unset, .unset, .unset] [(.long v3)])) _
      refine XS.lstore X0.here hx rfl (hb hby d10_13) rfl (l' := #[.val (.long q0), .second, .val (.long q1), .second, .val (.long v3), .second, .unset, .unset]) rfl ?_
      show Steps p.tables e below (s₁.setTop (mkF m 15 #[.val (.long q0), .second, .val (.long q1), .second, .val (.long v3), .second, .unset, .unset] [])) _
      refine XS.lloadN X0.here hx rfl (hb hby d10_15) rfl ?_
      show Steps p.tables e below (s₁.setTop (mkF m 16 #[.val (.long q0), .second, .val (.long q1), .second, .val (.long v3), .second, .unset, .unset] [(.long q0)])) _
      refine XS.lload X0.here hx rfl (hb hby d10_16) rfl ?_
      show Steps p.tables e below (s₁.setTop (mkF m 18 #[.val (.long q0), .second, .val (.long q1), .second, .val (.long v3), .second, .unset, .unset] [(.long v3), (.long q0)])) _
      refine XS.lloadN X0.here hx rfl (hb hby d10_18) rfl ?_
      show Steps p.tables e below (s₁.setTop (mkF m 19 #[.val (.long q0), .second, .val (.long q1), .second, .val (.long v3), .second, .unset, .unset] [(.long q1), (.long v3), (.long q0)])) _
      refine XS.lmul X0.here hx rfl (hb hby d10_19) rfl ?_
      show Steps p.tables e below (s₁.setTop (mkF m 20 #[.val (.long q0), .second, .val (.long q1), .second, .val (.long v3), .second, .unset, .unset] [(.long (v3 * q1)), (.long q0)])) _
      refine XS.lsub X0.here hx rfl (hb hby d10_20) rfl ?_
      show Steps p.tables e below (s₁.setTop (mkF m 21 #[.val (.long q0), .second, .val (.long q1), .second, .val (.long v3), .second, .unset, .unset] [(.long (q0 - (v3 * q1)))])) _
      rw [← hv4]
      show Steps p.tables e below (s₁.setTop (mkF m 21 #[.val (.long q0), .second, .val (.long q1), .second, .val (.long v3), .second, .unset, .unset] [(.long v4)])) _
      refine XS.lstore X0.here hx rfl (hb hby d10_21) rfl (l' := #[.val (.long q0), .second, .val (.long q1), .second, .val (.long v3), .second, .val (.long v4), .second]) rfl ?_
      show Steps p.tables e below (s₁.setTop (mkF m 23 #[.val (.long q0), .second, .val (.long q1), .second, .val (.long v3), .second, .val (.long v4), .second] [])) _
      refine XS.lload X0.here hx rfl (hb hby d10_23) rfl ?_
      show Steps p.tables e below (s₁.setTop (mkF m 25 #[.val (.long q0), .second, .val (.long q1), .second, .val (.long v3), .second, .val (.long v4), .second] [(.long v4)])) _
      refine XS.lload X0.here hx rfl (hb hby d10_25) rfl ?_
      show Steps p.tables e below (s₁.setTop (mkF m 27 #[.val (.long q0), .second, .val (.long q1), .second, .val (.long v3), .second, .val (.long v4), .second] [(.long v4), (.long v4)])) _
      refine XS.lloadN X0.here hx rfl (hb hby d10_27) rfl ?_
      show Steps p.tables e below (s₁.setTop (mkF m 28 #[.val (.long q0), .second, .val (.long q1), .second, .val (.long v3), .second, .val (.long v4), .second] [(.long q1), (.long v4), (.long v4)])) _
      refine XS.lsub X0.here hx rfl (hb hby d10_28) rfl ?_
      show Steps p.tables e below (s₁.setTop (mkF m 29 #[.val (.long q0), .second, .val (.long q1), .second, .val (.long v3), .second, .val (.long v4), .second] [(.long (v4 - q1)), (.long v4)])) _
      refine X0.ldc2Long hx hown (mvT hZ (hw _ (List.mem_of_getElem? (i := 64) rfl))) (g := (mkF m 29 #[.val (.long q0), .second, .val (.long q1), .second, .val (.long v3), .second, .val (.long v4), .second] [(.long (v4 - q1)), (.long v4)])) rfl (hb hby d10_29) _ ?_
      show Steps p.tables e below (s₁.setTop (mkF m 32 #[.val (.long q0), .second, .val (.long q1), .second, .val (.long v3), .second, .val (.long v4), .second] [(.long (-1 : Int64)), (.long (v4 - q1)), (.long v4)])) _
      refine XS.lxor X0.here hx rfl (hb hby d10_32) rfl ?_
      show Steps p.tables e below (s₁.setTop (mkF m 33 #[.val (.long q0), .second, .val (.long q1), .second, .val (.long v3), .second, .val (.long v4), .second] [(.long ((v4 - q1) ^^^ (-1 : Int64))), (.long v4)])) _
      refine XS.bipush X0.here hx rfl (hb hby d10_33) ?_
      show Steps p.tables e below (s₁.setTop (mkF m 35 #[.val (.long q0), .second, .val (.long q1), .second, .val (.long v3), .second, .val (.long v4), .second] [(.int (63 : Int32)), (.long ((v4 - q1) ^^^ (-1 : Int64))), (.long v4)])) _
      refine XS.lshr X0.here hx rfl (hb hby d10_35) rfl ?_
      show Steps p.tables e below (s₁.setTop (mkF m 36 #[.val (.long q0), .second, .val (.long q1), .second, .val (.long v3), .second, .val (.long v4), .second] [(.long (((v4 - q1) ^^^ (-1 : Int64)) >>> ((63 : Int32) &&& 0x3f).toInt64)), (.long v4)])) _
      refine XS.lloadN X0.here hx rfl (hb hby d10_36) rfl ?_
      show Steps p.tables e below (s₁.setTop (mkF m 37 #[.val (.long q0), .second, .val (.long q1), .second, .val (.long v3), .second, .val (.long v4), .second] [(.long q1), (.long (((v4 - q1) ^^^ (-1 : Int64)) >>> ((63 : Int32) &&& 0x3f).toInt64)), (.long v4)])) _
      refine XS.land X0.here hx rfl (hb hby d10_37) rfl ?_
      show Steps p.tables e below (s₁.setTop (mkF m 38 #[.val (.long q0), .second, .val (.long q1), .second, .val (.long v3), .second, .val (.long v4), .second] [(.long ((((v4 - q1) ^^^ (-1 : Int64)) >>> ((63 : Int32) &&& 0x3f).toInt64) &&& q1)), (.long v4)])) _
      refine XS.lsub X0.here hx rfl (hb hby d10_38) rfl ?_
      rw [← hv5]
      exact kt
    refine own_go hgo104 ?_
    exact own_retJ X0 hx Bd.returns Bd.notSynchronized (hb hby d10_39) (by decide) (by decide) (by rw [e0]; exact ⟨(by subst hv5 hv4 hv3; rw [own_r10, if_neg hc3_1]), N0, rfl⟩)
theorem pd5 : parseMethodDescriptor "()J" = some ⟨[], some .long⟩ := by decide +kernel
theorem pd6 : parseMethodDescriptor "()I" = some ⟨[], some .int⟩ := by decide +kernel
theorem pd7 : parseMethodDescriptor "(JJ)J" = some ⟨[.long, .long], some .long⟩ := by decide +kernel
theorem d6_0 : decode prog_15_method_1_code 0 = .ok (.aload_n 0, 1) := by decide +kernel
theorem d6_1 : decode prog_15_method_1_code 1 = .ok (.invokespecial 1, 3) := by decide +kernel
theorem d6_4 : decode prog_15_method_1_code 4 = .ok (.aload_n 0, 1) := by decide +kernel
theorem d6_5 : decode prog_15_method_1_code 5 = .ok (.aload_n 2, 1) := by decide +kernel
theorem d6_6 : decode prog_15_method_1_code 6 = .ok (.invokevirtual 7, 3) := by decide +kernel
theorem d6_9 : decode prog_15_method_1_code 9 = .ok (.putfield 13, 3) := by decide +kernel
theorem d6_12 : decode prog_15_method_1_code 12 = .ok (.aload_n 0, 1) := by decide +kernel
theorem d6_13 : decode prog_15_method_1_code 13 = .ok (.aload_n 2, 1) := by decide +kernel
theorem d6_14 : decode prog_15_method_1_code 14 = .ok (.invokevirtual 18, 3) := by decide +kernel
theorem d6_17 : decode prog_15_method_1_code 17 = .ok (.putfield 22, 3) := by decide +kernel
theorem d6_20 : decode prog_15_method_1_code 20 = .ok (.aload_n 0, 1) := by decide +kernel
theorem d6_21 : decode prog_15_method_1_code 21 = .ok (.aload_n 1, 1) := by decide +kernel
theorem d6_22 : decode prog_15_method_1_code 22 = .ok (.invokevirtual 25, 3) := by decide +kernel
theorem d6_25 : decode prog_15_method_1_code 25 = .ok (.aload_n 0, 1) := by decide +kernel
theorem d6_26 : decode prog_15_method_1_code 26 = .ok (.getfield 13, 3) := by decide +kernel
theorem d6_29 : decode prog_15_method_1_code 29 = .ok (.invokestatic 30, 3) := by decide +kernel
theorem d6_32 : decode prog_15_method_1_code 32 = .ok (.putfield 36, 3) := by decide +kernel
theorem d6_35 : decode prog_15_method_1_code 35 = .ok (.aload_n 0, 1) := by decide +kernel
theorem d6_36 : decode prog_15_method_1_code 36 = .ok (.aload_n 1, 1) := by decide +kernel
theorem d6_37 : decode prog_15_method_1_code 37 = .ok (.invokevirtual 39, 3) := by decide +kernel
theorem d6_40 : decode prog_15_method_1_code 40 = .ok (.aload_n 0, 1) := by decide +kernel
theorem d6_41 : decode prog_15_method_1_code 41 = .ok (.getfield 13, 3) := by decide +kernel
theorem d6_44 : decode prog_15_method_1_code 44 = .ok (.invokestatic 30, 3) := by decide +kernel
theorem d6_47 : decode prog_15_method_1_code 47 = .ok (.putfield 42, 3) := by decide +kernel
theorem d6_50 : decode prog_15_method_1_code 50 = .ok (.return_, 1) := by decide +kernel
theorem ef_6 (m : MethodId) (r0 : Addr) (r1 : Addr) (r2 : Addr) : entryFrame m #[(.ref r0), (.ref r1), (.ref r2)] 3 = mkF m 0 #[.val (.ref r0), .val (.ref r1), .val (.ref r2)] [] := by (first | (simp [entryFrame, mkF, argsToLocals, Value.category]; done) | rfl)
theorem pn8 : plainName "com/example/upper_falls/upperfalls/KeyPositions" = true := by first | (simp [plainName, overriddenIn]; done) | decide +kernel
def Q6 (Z : State) (r0 : Addr) (r1 : Addr) (r2 : Addr) (wb : Int64) (w4 : Int64) (w5 : Int32) (w6 : Int64) (w7 : Int64) (w8 : Int32) (w9 : Int32) (w10 : Int64) (w11 : Int64) (h0 : Heap) (n0 : Nat) (v : Option Value) (h : Heap) (L : List Loc) : Prop := v = none ∧ Fr n0 L ∧ Keep h0 h [r0] ∧ Exa Z h r0 "com/example/upper_falls/upperfalls/KeyPositions" ∧ Fld Z h r0 "com/example/upper_falls/upperfalls/KeyPositions" "bits" "J" (.long wb) ∧ Fld Z h r0 "com/example/upper_falls/upperfalls/KeyPositions" "hashes" "I" (.int w9) ∧ Fld Z h r0 "com/example/upper_falls/upperfalls/KeyPositions" "position" "J" (.long (own_r10 w10 wb)) ∧ Fld Z h r0 "com/example/upper_falls/upperfalls/KeyPositions" "step" "J" (.long (own_r10 w11 wb)) ∧ Fld Z h r0 "com/example/upper_falls/upperfalls/KeyPositions" "index" "I" (.int w8)
set_option maxRecDepth 65536 in
set_option maxHeartbeats 40000000 in
theorem rm6 (l : Launch) (Z : State) (a0 : Array Value) (hw : ∀ d ∈ tables_1, d.before a0 Z = true) (ws : List Jvm.Cond) (r0 : Addr) (r1 : Addr) (r2 : Addr) (wb : Int64) (w4 : Int64) (w5 : Int32) (w6 : Int64) (w7 : Int64) (w8 : Int32) (w9 : Int32) (w10 : Int64) (w11 : Int64) (h0 : Heap) (n0 : Nat) (Z0 : n0 ≤ h0.size) (F_bits_r2 : Fld Z h0 r2 "com/example/upper_falls/upperfalls/FilterSize" "bits" "J" (.long wb)) (hz2 : ¬ (wb = (0 : Int64))) (E_r2 : Exa Z h0 r2 "com/example/upper_falls/upperfalls/FilterSize") (E_r0 : Exa Z h0 r0 "com/example/upper_falls/upperfalls/KeyPositions") (F_bits_r0 : Fld Z h0 r0 "com/example/upper_falls/upperfalls/KeyPositions" "bits" "J" (.long w4)) (F_hashes_r0 : Fld Z h0 r0 "com/example/upper_falls/upperfalls/KeyPositions" "hashes" "I" (.int w5)) (F_position_r0 : Fld Z h0 r0 "com/example/upper_falls/upperfalls/KeyPositions" "position" "J" (.long w6)) (F_step_r0 : Fld Z h0 r0 "com/example/upper_falls/upperfalls/KeyPositions" "step" "J" (.long w7)) (F_index_r0 : Fld Z h0 r0 "com/example/upper_falls/upperfalls/KeyPositions" "index" "I" (.int w8)) (hne_r2_r0 : r2 ≠ r0) (g_r0 : n0 ≤ r0) (F_hashes_r2 : Fld Z h0 r2 "com/example/upper_falls/upperfalls/FilterSize" "hashes" "I" (.int w9)) (F_h1_r1 : Fld Z h0 r1 "com/example/upper_falls/upperfalls/KeyHash" "h1" "J" (.long w10)) (hne_r1_r0 : r1 ≠ r0) (E_r1 : Exa Z h0 r1 "com/example/upper_falls/upperfalls/KeyHash") (F_h2_r1 : Fld Z h0 r1 "com/example/upper_falls/upperfalls/KeyHash" "h2" "J" (.long w11)) :
    MetFree l (⟨"com/example/upper_falls/upperfalls/KeyPositions", "<init>", "(Lcom/example/upper_falls/upperfalls/KeyHash;Lcom/example/upper_falls/upperfalls/FilterSize;)V"⟩ : MethodName) (head1 (Jvm.Cond.code (⟨"com/example/upper_falls/upperfalls/KeyPositions", "<init>", "(Lcom/example/upper_falls/upperfalls/KeyHash;Lcom/example/upper_falls/upperfalls/FilterSize;)V"⟩ : MethodName) prog_15_method_1_code 3 none :: ws) ({ frames := 1, cells := 0, slots := 0, locals := 20 } : Room)) (fun a U => a = #[(.ref r0), (.ref r1), (.ref r2)] ∧ Z.Warmed39 U.vm ∧ U.heap = h0) (fun _ _ _ _ _ => True) (fun _ U o U' => ∃ v L, o = .returned v ∧ Q6 Z r0 r1 r2 wb w4 w5 w6 w7 w8 w9 w10 w11 h0 n0 v U'.heap L ∧ FrameEnd U o U' L ({ frames := 1, cells := 0, slots := 0, locals := 20 } : Room).cells ({ frames := 1, cells := 0, slots := 0, locals := 20 } : Room).slots) := by
  refine MetFree.of_bodySF (plainFor_of_name pn8) hisR ?_
  intro p e s m args below meth c s₁ Bd hml0 hP hK
  obtain ⟨rfl, hZ, hh⟩ := hP
  have hx := Bd.exec
  have hby := Bd.bytes
  have hml : c.maxLocals = 3 := hml0
  have hown : s.vm.findClass "com/example/upper_falls/upperfalls/KeyPositions" = some m.cls := findClass_of_methodNamed Bd.named
  have hnm := (name_of_methodNamed Bd.named Bd.method).1
  have X0 : Stand p l e ({ frames := 1, cells := 0, slots := 0, locals := 20 } : Room) s m #[(.ref r0), (.ref r1), (.ref r2)] below meth c s₁ [] 0 0 := Stand.of_body Bd
  have e0 : s₁.heap = h0 := by rw [← hh, Bd.state]; rfl
  have N0 := Fr.nil n0
  have K0 : Keep h0 h0 [r0] := Keep.refl h0 _
  show own_Go p e below s (Q6 Z r0 r1 r2 wb w4 w5 w6 w7 w8 w9 w10 w11 h0 n0) ({ frames := 1, cells := 0, slots := 0, locals := 20 } : Room).cells ({ frames := 1, cells := 0, slots := 0, locals := 20 } : Room).slots (s₁.setTop (entryFrame m #[(.ref r0), (.ref r1), (.ref r2)] 3))
  refine own_go (fun t k => castTop (ef_6 m r0 r1 r2) k) ?_
  obtain ⟨T101, X101, e101, st101⟩ := initO X0 hx hZ hown (hw _ (List.mem_of_getElem? (i := 40) rfl)) (hw _ (List.mem_of_getElem? (i := 17) rfl)) (hw _ (List.mem_of_getElem? (i := 18) rfl)) e0 (g := (mkF m 1 #[.val (.ref r0), .val (.ref r1), .val (.ref r2)] [(.ref r0)])) rfl (by rw [hml]; rfl) rfl (hb hby d6_1) (by decide) (W := 0) (by show 2 * 0 + _ ≤ _; exact Nat.le_of_eq rfl) (by decide)
  obtain ⟨cq102, kq102, q102a, q102b, q102c⟩ := isOf hZ e101 E_r2
  obtain ⟨_, _, ⟨T102, L102, k102, n102⟩, -, X102, ⟨Lc102, hQ102, l102, y102, z102⟩, st102⟩ := X101.virtualBack hx (y := (⟨"com/example/upper_falls/upperfalls/FilterSize", "bits", "()J"⟩ : MethodName)) (z := (⟨"com/example/upper_falls/upperfalls/FilterSize", "bits", "()J"⟩ : MethodName)) hown (mvT hZ (hw _ (List.mem_of_getElem? (i := 41) rfl))) (mvT hZ (hw _ (List.mem_of_getElem? (i := 42) rfl))) (notFace_of_selects (args := #[]) (mvT hZ (hw _ (List.mem_of_getElem? (i := 44) rfl)))) (mvT hZ (hw _ (List.mem_of_getElem? (i := 44) rfl))) (mvT hZ (hw _ (List.mem_of_getElem? (i := 43) rfl))) (by decide) (backOf (W := 1) (rm7 l Z a0 hw [] r2 wb h0 n0 Z0 F_bits_r2) hZ (hw _ (List.mem_of_getElem? (i := 45) rfl)) (hw _ (List.mem_of_getElem? (i := 25) rfl)) (by decide) (by decide)) q102a q102c (g := (mkF m 6 #[.val (.ref r0), .val (.ref r1), .val (.ref r2)] [(.ref r2), (.ref r0)])) rfl (by rw [hml]; rfl) (Steps.refl _) (argsL := []) (rest := [(.ref r0)]) (lenOf pd5 rfl) rfl (by show 2 * 0 + _ ≤ _; exact Nat.le_of_eq rfl) (hb hby d6_6) (fun _ _ => ⟨rfl, e101, (by decide : 0 + 0 ≤ _), (by decide : 0 + 0 ≤ _)⟩)
  dsimp only [Pt.U, Pt.locs, Pt.cells, Pt.slots] at X102 l102 y102 z102 st102 hQ102
  subst l102 y102 z102
  obtain ⟨rfl, N102q, e102⟩ := hQ102
  have N102 := Fr.app N0 N102q
  obtain ⟨T103, h103, X103, e103, W103, st103⟩ := putF X102 hx hZ hown (host := "") (Or.inl (hw _ (List.mem_of_getElem? (i := 46) rfl))) Via.refl e102 F_bits_r0 E_r0 (Or.inr ⟨(hw _ (List.mem_of_getElem? (i := 47) rfl)), rfl, hnm⟩) (hw _ (List.mem_of_getElem? (i := 35) rfl)) (ty := .long) (by decide) rfl rfl (g := (mkF m 9 #[.val (.ref r0), .val (.ref r1), .val (.ref r2)] [(.long wb), (.ref r0)])) rfl rfl (hb hby d6_9)
  have F104 := F_bits_r2.other W103 (Or.inl hne_r2_r0)
  have F105 := E_r2.wr W103
  have F106 := E_r0.wr W103
  have F107 := F_bits_r0.same W103
  have F108 := F_hashes_r0.other W103 (Or.inr (slot_ne (Or.inr (hw _ (List.mem_of_getElem? (i := 54) rfl))) (Or.inr (hw _ (List.mem_of_getElem? (i := 47) rfl))) (by decide) (t := .int) (t' := .long) (by decide) (by decide)))
  have F109 := F_position_r0.other W103 (Or.inr (slot_ne (Or.inl (hw _ (List.mem_of_getElem? (i := 66) rfl))) (Or.inr (hw _ (List.mem_of_getElem? (i := 47) rfl))) (by decide) (t := .long) (t' := .long) (by decide) (by decide)))
  have F110 := F_step_r0.other W103 (Or.inr (slot_ne (Or.inl (hw _ (List.mem_of_getElem? (i := 73) rfl))) (Or.inr (hw _ (List.mem_of_getElem? (i := 47) rfl))) (by decide) (t := .long) (t' := .long) (by decide) (by decide)))
  have F111 := F_index_r0.other W103 (Or.inr (slot_ne (Or.inl (hw _ (List.mem_of_getElem? (i := 80) rfl))) (Or.inr (hw _ (List.mem_of_getElem? (i := 47) rfl))) (by decide) (t := .int) (t' := .long) (by decide) (by decide)))
  have F112 := F_hashes_r2.other W103 (Or.inl hne_r2_r0)
  have F113 := F_h1_r1.other W103 (Or.inl hne_r1_r0)
  have F114 := E_r1.wr W103
  have F115 := F_h2_r1.other W103 (Or.inl hne_r1_r0)
  have Z116 : n0 ≤ h103.size := Nat.le_trans Z0 (Keep.of_wr W103).1
  have K117 : Keep h0 h103 [r0] := K0.wr W103 (Or.inl (List.mem_of_getElem? (i := 0) rfl))
  have N118 := Fr.snoc X103 N102 g_r0
  obtain ⟨cq119, kq119, q119a, q119b, q119c⟩ := isOf hZ e103 F105
  obtain ⟨_, _, ⟨T119, L119, k119, n119⟩, -, X119, ⟨Lc119, hQ119, l119, y119, z119⟩, st119⟩ := X103.virtualBack hx (y := (⟨"com/example/upper_falls/upperfalls/FilterSize", "hashes", "()I"⟩ : MethodName)) (z := (⟨"com/example/upper_falls/upperfalls/FilterSize", "hashes", "()I"⟩ : MethodName)) hown (mvT hZ (hw _ (List.mem_of_getElem? (i := 48) rfl))) (mvT hZ (hw _ (List.mem_of_getElem? (i := 49) rfl))) (notFace_of_selects (args := #[]) (mvT hZ (hw _ (List.mem_of_getElem? (i := 51) rfl)))) (mvT hZ (hw _ (List.mem_of_getElem? (i := 51) rfl))) (mvT hZ (hw _ (List.mem_of_getElem? (i := 50) rfl))) (by decide) (backOf (W := 1) (rm8 l Z a0 hw [] r2 w9 h103 n0 Z116 F112) hZ (hw _ (List.mem_of_getElem? (i := 52) rfl)) (hw _ (List.mem_of_getElem? (i := 25) rfl)) (by decide) (by decide)) q119a q119c (g := (mkF m 14 #[.val (.ref r0), .val (.ref r1), .val (.ref r2)] [(.ref r2), (.ref r0)])) rfl (by rw [hml]; rfl) (Steps.refl _) (argsL := []) (rest := [(.ref r0)]) (lenOf pd6 rfl) rfl (by show 2 * 0 + _ ≤ _; exact Nat.le_of_eq rfl) (hb hby d6_14) (fun _ _ => ⟨rfl, e103, (by decide : 0 + 0 ≤ _), (by decide : 0 + 0 ≤ _)⟩)
  dsimp only [Pt.U, Pt.locs, Pt.cells, Pt.slots] at X119 l119 y119 z119 st119 hQ119
  subst l119 y119 z119
  obtain ⟨rfl, N119q, e119⟩ := hQ119
  have N119 := Fr.app N118 N119q
  obtain ⟨T120, h120, X120, e120, W120, st120⟩ := putF X119 hx hZ hown (host := "") (Or.inl (hw _ (List.mem_of_getElem? (i := 53) rfl))) Via.refl e119 F108 F106 (Or.inr ⟨(hw _ (List.mem_of_getElem? (i := 54) rfl)), rfl, hnm⟩) (hw _ (List.mem_of_getElem? (i := 35) rfl)) (ty := .int) (by decide) rfl rfl (g := (mkF m 17 #[.val (.ref r0), .val (.ref r1), .val (.ref r2)] [(.int w9), (.ref r0)])) rfl rfl (hb hby d6_17)
  have F121 := F104.other W120 (Or.inl hne_r2_r0)
  have F122 := F105.wr W120
  have F123 := F106.wr W120
  have F124 := F107.other W120 (Or.inr (slot_ne (Or.inr (hw _ (List.mem_of_getElem? (i := 47) rfl))) (Or.inr (hw _ (List.mem_of_getElem? (i := 54) rfl))) (by decide) (t := .long) (t' := .int) (by decide) (by decide)))
  have F125 := F108.same W120
  have F126 := F109.other W120 (Or.inr (slot_ne (Or.inl (hw _ (List.mem_of_getElem? (i := 66) rfl))) (Or.inr (hw _ (List.mem_of_getElem? (i := 54) rfl))) (by decide) (t := .long) (t' := .int) (by decide) (by decide)))
  have F127 := F110.other W120 (Or.inr (slot_ne (Or.inl (hw _ (List.mem_of_getElem? (i := 73) rfl))) (Or.inr (hw _ (List.mem_of_getElem? (i := 54) rfl))) (by decide) (t := .long) (t' := .int) (by decide) (by decide)))
  have F128 := F111.other W120 (Or.inr (slot_ne (Or.inl (hw _ (List.mem_of_getElem? (i := 80) rfl))) (Or.inr (hw _ (List.mem_of_getElem? (i := 54) rfl))) (by decide) (t := .int) (t' := .int) (by decide) (by decide)))
  have F129 := F112.other W120 (Or.inl hne_r2_r0)
  have F130 := F113.other W120 (Or.inl hne_r1_r0)
  have F131 := F114.wr W120
  have F132 := F115.other W120 (Or.inl hne_r1_r0)
  have Z133 : n0 ≤ h120.size := Nat.le_trans Z116 (Keep.of_wr W120).1
  have K134 : Keep h0 h120 [r0] := K117.wr W120 (Or.inl (List.mem_of_getElem? (i := 0) rfl))
  have N135 := Fr.snoc X120 N119 g_r0
  obtain ⟨cq136, kq136, q136a, q136b, q136c⟩ := isOf hZ e120 F131
  obtain ⟨_, _, ⟨T136, L136, k136, n136⟩, -, X136, ⟨Lc136, hQ136, l136, y136, z136⟩, st136⟩ := X120.virtualBack hx (y := (⟨"com/example/upper_falls/upperfalls/KeyHash", "h1", "()J"⟩ : MethodName)) (z := (⟨"com/example/upper_falls/upperfalls/KeyHash", "h1", "()J"⟩ : MethodName)) hown (mvT hZ (hw _ (List.mem_of_getElem? (i := 55) rfl))) (mvT hZ (hw _ (List.mem_of_getElem? (i := 56) rfl))) (notFace_of_selects (args := #[]) (mvT hZ (hw _ (List.mem_of_getElem? (i := 58) rfl)))) (mvT hZ (hw _ (List.mem_of_getElem? (i := 58) rfl))) (mvT hZ (hw _ (List.mem_of_getElem? (i := 57) rfl))) (by decide) (backOf (W := 1) (rm9 l Z a0 hw [] r1 w10 h120 n0 Z133 F130) hZ (hw _ (List.mem_of_getElem? (i := 59) rfl)) (hw _ (List.mem_of_getElem? (i := 7) rfl)) (by decide) (by decide)) q136a q136c (g := (mkF m 22 #[.val (.ref r0), .val (.ref r1), .val (.ref r2)] [(.ref r1), (.ref r0)])) rfl (by rw [hml]; rfl) (Steps.refl _) (argsL := []) (rest := [(.ref r0)]) (lenOf pd5 rfl) rfl (by show 2 * 0 + _ ≤ _; exact Nat.le_of_eq rfl) (hb hby d6_22) (fun _ _ => ⟨rfl, e120, (by decide : 0 + 0 ≤ _), (by decide : 0 + 0 ≤ _)⟩)
  dsimp only [Pt.U, Pt.locs, Pt.cells, Pt.slots] at X136 l136 y136 z136 st136 hQ136
  subst l136 y136 z136
  obtain ⟨rfl, N136q, e136⟩ := hQ136
  have N136 := Fr.app N135 N136q
  obtain ⟨T137, X137, e137, st137⟩ := getF X136 hx hZ hown (host := "") (Or.inl (hw _ (List.mem_of_getElem? (i := 46) rfl))) Via.refl e136 F124 (g := (mkF m 26 #[.val (.ref r0), .val (.ref r1), .val (.ref r2)] [(.ref r0), (.long w10), (.ref r0)])) rfl rfl (hb hby d6_26)
  obtain ⟨_, _, ⟨T138, L138, k138, n138⟩, -, X138, ⟨Lc138, hQ138, l138, y138, z138⟩, st138⟩ := Jvm.LawKit.callS X137 hx (y := (⟨"java/lang/Long", "remainderUnsigned", "(JJ)J"⟩ : MethodName)) hown (mvT hZ (hw _ (List.mem_of_getElem? (i := 60) rfl))) (mvT hZ (hw _ (List.mem_of_getElem? (i := 61) rfl))) (mvT hZ (hw _ (List.mem_of_getElem? (i := 62) rfl))) (mvT hZ (hw _ (List.mem_of_getElem? (i := 63) rfl))) (by decide) (backOf (W := 1) (rm10 l Z a0 hw [] w10 wb h120 n0 Z133 (hz2 : ¬ (wb = (0 : Int64)))) hZ (hw _ (List.mem_of_getElem? (i := 63) rfl)) (hw _ (List.mem_of_getElem? (i := 62) rfl)) (by decide) (by decide)) (g := (mkF m 29 #[.val (.ref r0), .val (.ref r1), .val (.ref r2)] [(.long wb), (.long w10), (.ref r0)])) rfl (by rw [hml]; rfl) (argsL := [(.long w10), (.long wb)]) (rest := [(.ref r0)]) (lenOf pd7 rfl) rfl (by show 2 * 0 + _ ≤ _; exact Nat.le_of_eq rfl) (hb hby d6_29) (fun _ _ => ⟨rfl, e137, (by decide : 0 + 0 ≤ _), (by decide : 0 + 0 ≤ _)⟩)
  dsimp only [Pt.U, Pt.locs, Pt.cells, Pt.slots] at X138 l138 y138 z138 st138 hQ138
  subst l138 y138 z138
  obtain ⟨rfl, N138q, e138⟩ := hQ138
  have N138 := Fr.app N136 N138q
  obtain ⟨v1, hv1⟩ : ∃ z : Int64, z = (own_r10 w10 wb) := ⟨_, rfl⟩
  obtain ⟨T139, h139, X139, e139, W139, st139⟩ := putF X138 hx hZ hown (host := "") (Or.inl (hw _ (List.mem_of_getElem? (i := 65) rfl))) Via.refl e138 F126 F123 (Or.inl (hw _ (List.mem_of_getElem? (i := 66) rfl))) (hw _ (List.mem_of_getElem? (i := 35) rfl)) (ty := .long) (by decide) rfl rfl (g := (mkF m 32 #[.val (.ref r0), .val (.ref r1), .val (.ref r2)] [(.long v1), (.ref r0)])) rfl rfl (hb hby d6_32)
  have F140 := F121.other W139 (Or.inl hne_r2_r0)
  have F141 := F122.wr W139
  have F142 := F123.wr W139
  have F143 := F124.other W139 (Or.inr (slot_ne (Or.inr (hw _ (List.mem_of_getElem? (i := 47) rfl))) (Or.inl (hw _ (List.mem_of_getElem? (i := 66) rfl))) (by decide) (t := .long) (t' := .long) (by decide) (by decide)))
  have F144 := F125.other W139 (Or.inr (slot_ne (Or.inr (hw _ (List.mem_of_getElem? (i := 54) rfl))) (Or.inl (hw _ (List.mem_of_getElem? (i := 66) rfl))) (by decide) (t := .int) (t' := .long) (by decide) (by decide)))
  have F145 := F126.same W139
  have F146 := F127.other W139 (Or.inr (slot_ne (Or.inl (hw _ (List.mem_of_getElem? (i := 73) rfl))) (Or.inl (hw _ (List.mem_of_getElem? (i := 66) rfl))) (by decide) (t := .long) (t' := .long) (by decide) (by decide)))
  have F147 := F128.other W139 (Or.inr (slot_ne (Or.inl (hw _ (List.mem_of_getElem? (i := 80) rfl))) (Or.inl (hw _ (List.mem_of_getElem? (i := 66) rfl))) (by decide) (t := .int) (t' := .long) (by decide) (by decide)))
  have F148 := F129.other W139 (Or.inl hne_r2_r0)
  have F149 := F130.other W139 (Or.inl hne_r1_r0)
  have F150 := F131.wr W139
  have F151 := F132.other W139 (Or.inl hne_r1_r0)
  have Z152 : n0 ≤ h139.size := Nat.le_trans Z133 (Keep.of_wr W139).1
  have K153 : Keep h0 h139 [r0] := K134.wr W139 (Or.inl (List.mem_of_getElem? (i := 0) rfl))
  have N154 := Fr.snoc X139 N138 g_r0
  obtain ⟨cq155, kq155, q155a, q155b, q155c⟩ := isOf hZ e139 F150
  obtain ⟨_, _, ⟨T155, L155, k155, n155⟩, -, X155, ⟨Lc155, hQ155, l155, y155, z155⟩, st155⟩ := X139.virtualBack hx (y := (⟨"com/example/upper_falls/upperfalls/KeyHash", "h2", "()J"⟩ : MethodName)) (z := (⟨"com/example/upper_falls/upperfalls/KeyHash", "h2", "()J"⟩ : MethodName)) hown (mvT hZ (hw _ (List.mem_of_getElem? (i := 67) rfl))) (mvT hZ (hw _ (List.mem_of_getElem? (i := 68) rfl))) (notFace_of_selects (args := #[]) (mvT hZ (hw _ (List.mem_of_getElem? (i := 70) rfl)))) (mvT hZ (hw _ (List.mem_of_getElem? (i := 70) rfl))) (mvT hZ (hw _ (List.mem_of_getElem? (i := 69) rfl))) (by decide) (backOf (W := 1) (rm11 l Z a0 hw [] r1 w11 h139 n0 Z152 F151) hZ (hw _ (List.mem_of_getElem? (i := 71) rfl)) (hw _ (List.mem_of_getElem? (i := 7) rfl)) (by decide) (by decide)) q155a q155c (g := (mkF m 37 #[.val (.ref r0), .val (.ref r1), .val (.ref r2)] [(.ref r1), (.ref r0)])) rfl (by rw [hml]; rfl) (Steps.refl _) (argsL := []) (rest := [(.ref r0)]) (lenOf pd5 rfl) rfl (by show 2 * 0 + _ ≤ _; exact Nat.le_of_eq rfl) (hb hby d6_37) (fun _ _ => ⟨rfl, e139, (by decide : 0 + 0 ≤ _), (by decide : 0 + 0 ≤ _)⟩)
  dsimp only [Pt.U, Pt.locs, Pt.cells, Pt.slots] at X155 l155 y155 z155 st155 hQ155
  subst l155 y155 z155
  obtain ⟨rfl, N155q, e155⟩ := hQ155
  have N155 := Fr.app N154 N155q
  obtain ⟨T156, X156, e156, st156⟩ := getF X155 hx hZ hown (host := "") (Or.inl (hw _ (List.mem_of_getElem? (i := 46) rfl))) Via.refl e155 F143 (g := (mkF m 41 #[.val (.ref r0), .val (.ref r1), .val (.ref r2)] [(.ref r0), (.long w11), (.ref r0)])) rfl rfl (hb hby d6_41)
  obtain ⟨_, _, ⟨T157, L157, k157, n157⟩, -, X157, ⟨Lc157, hQ157, l157, y157, z157⟩, st157⟩ := Jvm.LawKit.callS X156 hx (y := (⟨"java/lang/Long", "remainderUnsigned", "(JJ)J"⟩ : MethodName)) hown (mvT hZ (hw _ (List.mem_of_getElem? (i := 60) rfl))) (mvT hZ (hw _ (List.mem_of_getElem? (i := 61) rfl))) (mvT hZ (hw _ (List.mem_of_getElem? (i := 62) rfl))) (mvT hZ (hw _ (List.mem_of_getElem? (i := 63) rfl))) (by decide) (backOf (W := 1) (rm10 l Z a0 hw [] w11 wb h139 n0 Z152 (hz2 : ¬ (wb = (0 : Int64)))) hZ (hw _ (List.mem_of_getElem? (i := 63) rfl)) (hw _ (List.mem_of_getElem? (i := 62) rfl)) (by decide) (by decide)) (g := (mkF m 44 #[.val (.ref r0), .val (.ref r1), .val (.ref r2)] [(.long wb), (.long w11), (.ref r0)])) rfl (by rw [hml]; rfl) (argsL := [(.long w11), (.long wb)]) (rest := [(.ref r0)]) (lenOf pd7 rfl) rfl (by show 2 * 0 + _ ≤ _; exact Nat.le_of_eq rfl) (hb hby d6_44) (fun _ _ => ⟨rfl, e156, (by decide : 0 + 0 ≤ _), (by decide : 0 + 0 ≤ _)⟩)
  dsimp only [Pt.U, Pt.locs, Pt.cells, Pt.slots] at X157 l157 y157 z157 st157 hQ157
  subst l157 y157 z157
  obtain ⟨rfl, N157q, e157⟩ := hQ157
  have N157 := Fr.app N155 N157q
  obtain ⟨v2, hv2⟩ : ∃ z : Int64, z = (own_r10 w11 wb) := ⟨_, rfl⟩
  obtain ⟨T158, h158, X158, e158, W158, st158⟩ := putF X157 hx hZ hown (host := "") (Or.inl (hw _ (List.mem_of_getElem? (i := 72) rfl))) Via.refl e157 F146 F142 (Or.inl (hw _ (List.mem_of_getElem? (i := 73) rfl))) (hw _ (List.mem_of_getElem? (i := 35) rfl)) (ty := .long) (by decide) rfl rfl (g := (mkF m 47 #[.val (.ref r0), .val (.ref r1), .val (.ref r2)] [(.long v2), (.ref r0)])) rfl rfl (hb hby d6_47)
  have F159 := F140.other W158 (Or.inl hne_r2_r0)
  have F160 := F141.wr W158
  have F161 := F142.wr W158
  have F162 := F143.other W158 (Or.inr (slot_ne (Or.inr (hw _ (List.mem_of_getElem? (i := 47) rfl))) (Or.inl (hw _ (List.mem_of_getElem? (i := 73) rfl))) (by decide) (t := .long) (t' := .long) (by decide) (by decide)))
  have F163 := F144.other W158 (Or.inr (slot_ne (Or.inr (hw _ (List.mem_of_getElem? (i := 54) rfl))) (Or.inl (hw _ (List.mem_of_getElem? (i := 73) rfl))) (by decide) (t := .int) (t' := .long) (by decide) (by decide)))
  have F164 := F145.other W158 (Or.inr (slot_ne (Or.inl (hw _ (List.mem_of_getElem? (i := 66) rfl))) (Or.inl (hw _ (List.mem_of_getElem? (i := 73) rfl))) (by decide) (t := .long) (t' := .long) (by decide) (by decide)))
  have F165 := F146.same W158
  have F166 := F147.other W158 (Or.inr (slot_ne (Or.inl (hw _ (List.mem_of_getElem? (i := 80) rfl))) (Or.inl (hw _ (List.mem_of_getElem? (i := 73) rfl))) (by decide) (t := .int) (t' := .long) (by decide) (by decide)))
  have F167 := F148.other W158 (Or.inl hne_r2_r0)
  have F168 := F149.other W158 (Or.inl hne_r1_r0)
  have F169 := F150.wr W158
  have F170 := F151.other W158 (Or.inl hne_r1_r0)
  have Z171 : n0 ≤ h158.size := Nat.le_trans Z152 (Keep.of_wr W158).1
  have K172 : Keep h0 h158 [r0] := K153.wr W158 (Or.inl (List.mem_of_getElem? (i := 0) rfl))
  have N173 := Fr.snoc X158 N157 g_r0
  have hgo174 : ∀ t, Steps p.tables e below (T158.setTop (mkF m 50 #[.val (.ref r0), .val (.ref r1), .val (.ref r2)] [])) t → Steps p.tables e below (s₁.setTop (mkF m 0 #[.val (.ref r0), .val (.ref r1), .val (.ref r2)] [])) t := by
    intro t kt
    show Steps p.tables e below (s₁.setTop (mkF m 0 #[.val (.ref r0), .val (.ref r1), .val (.ref r2)] [])) _
    refine XS.aloadN X0.here hx rfl (hb hby d6_0) rfl rfl ?_
    show Steps p.tables e below (s₁.setTop (mkF m 1 #[.val (.ref r0), .val (.ref r1), .val (.ref r2)] [(.ref r0)])) _
    refine st101 _ ?_
    show Steps p.tables e below (T101.setTop (mkF m 4 #[.val (.ref r0), .val (.ref r1), .val (.ref r2)] [])) _
    refine XS.aloadN X101.here hx rfl (hb hby d6_4) rfl rfl ?_
    show Steps p.tables e below (T101.setTop (mkF m 5 #[.val (.ref r0), .val (.ref r1), .val (.ref r2)] [(.ref r0)])) _
    refine XS.aloadN X101.here hx rfl (hb hby d6_5) rfl rfl ?_
    show Steps p.tables e below (T101.setTop (mkF m 6 #[.val (.ref r0), .val (.ref r1), .val (.ref r2)] [(.ref r2), (.ref r0)])) _
    refine st102.trans ?_
    show Steps p.tables e below (T102.setTop (mkF m 9 #[.val (.ref r0), .val (.ref r1), .val (.ref r2)] [(.long wb), (.ref r0)])) _
    refine st103 _ ?_
    show Steps p.tables e below (T103.setTop (mkF m 12 #[.val (.ref r0), .val (.ref r1), .val (.ref r2)] [])) _
    refine XS.aloadN X103.here hx rfl (hb hby d6_12) rfl rfl ?_
    show Steps p.tables e below (T103.setTop (mkF m 13 #[.val (.ref r0), .val (.ref r1), .val (.ref r2)] [(.ref r0)])) _
    refine XS.aloadN X103.here hx rfl (hb hby d6_13) rfl rfl ?_
    show Steps p.tables e below (T103.setTop (mkF m 14 #[.val (.ref r0), .val (.ref r1), .val (.ref r2)] [(.ref r2), (.ref r0)])) _
    refine st119.trans ?_
    show Steps p.tables e below (T119.setTop (mkF m 17 #[.val (.ref r0), .val (.ref r1), .val (.ref r2)] [(.int w9), (.ref r0)])) _
    refine st120 _ ?_
    show Steps p.tables e below (T120.setTop (mkF m 20 #[.val (.ref r0), .val (.ref r1), .val (.ref r2)] [])) _
    refine XS.aloadN X120.here hx rfl (hb hby d6_20) rfl rfl ?_
    show Steps p.tables e below (T120.setTop (mkF m 21 #[.val (.ref r0), .val (.ref r1), .val (.ref r2)] [(.ref r0)])) _
    refine XS.aloadN X120.here hx rfl (hb hby d6_21) rfl rfl ?_
    show Steps p.tables e below (T120.setTop (mkF m 22 #[.val (.ref r0), .val (.ref r1), .val (.ref r2)] [(.ref r1), (.ref r0)])) _
    refine st136.trans ?_
    show Steps p.tables e below (T136.setTop (mkF m 25 #[.val (.ref r0), .val (.ref r1), .val (.ref r2)] [(.long w10), (.ref r0)])) _
    refine XS.aloadN X136.here hx rfl (hb hby d6_25) rfl rfl ?_
    show Steps p.tables e below (T136.setTop (mkF m 26 #[.val (.ref r0), .val (.ref r1), .val (.ref r2)] [(.ref r0), (.long w10), (.ref r0)])) _
    refine st137 _ ?_
    show Steps p.tables e below (T137.setTop (mkF m 29 #[.val (.ref r0), .val (.ref r1), .val (.ref r2)] [(.long wb), (.long w10), (.ref r0)])) _
    refine st138 _ ?_
    show Steps p.tables e below (T138.setTop (mkF m 32 #[.val (.ref r0), .val (.ref r1), .val (.ref r2)] [(.long (own_r10 w10 wb)), (.ref r0)])) _
    rw [← hv1]
    refine st139 _ ?_
    show Steps p.tables e below (T139.setTop (mkF m 35 #[.val (.ref r0), .val (.ref r1), .val (.ref r2)] [])) _
    refine XS.aloadN X139.here hx rfl (hb hby d6_35) rfl rfl ?_
    show Steps p.tables e below (T139.setTop (mkF m 36 #[.val (.ref r0), .val (.ref r1), .val (.ref r2)] [(.ref r0)])) _
    refine XS.aloadN X139.here hx rfl (hb hby d6_36) rfl rfl ?_
    show Steps p.tables e below (T139.setTop (mkF m 37 #[.val (.ref r0), .val (.ref r1), .val (.ref r2)] [(.ref r1), (.ref r0)])) _
    refine st155.trans ?_
    show Steps p.tables e below (T155.setTop (mkF m 40 #[.val (.ref r0), .val (.ref r1), .val (.ref r2)] [(.long w11), (.ref r0)])) _
    refine XS.aloadN X155.here hx rfl (hb hby d6_40) rfl rfl ?_
    show Steps p.tables e below (T155.setTop (mkF m 41 #[.val (.ref r0), .val (.ref r1), .val (.ref r2)] [(.ref r0), (.long w11), (.ref r0)])) _
    refine st156 _ ?_
    show Steps p.tables e below (T156.setTop (mkF m 44 #[.val (.ref r0), .val (.ref r1), .val (.ref r2)] [(.long wb), (.long w11), (.ref r0)])) _
    refine st157 _ ?_
    show Steps p.tables e below (T157.setTop (mkF m 47 #[.val (.ref r0), .val (.ref r1), .val (.ref r2)] [(.long (own_r10 w11 wb)), (.ref r0)])) _
    rw [← hv2]
    refine st158 _ ?_
    exact kt
  refine own_go hgo174 ?_
  exact own_retV X158 hx Bd.returns Bd.notSynchronized (hb hby d6_50) (by decide) (by decide) (by rw [e158]; exact ⟨(by rfl), N173, K172, F161, (by subst hv2 hv1; exact F162), (by subst hv2 hv1; exact F163), (by subst hv2 hv1; exact F164), (by subst hv2 hv1; exact F165), (by subst hv2 hv1; exact F166)⟩)
theorem d12_0 : decode prog_15_method_2_code 0 = .ok (.aload_n 0, 1) := by decide +kernel
theorem d12_1 : decode prog_15_method_2_code 1 = .ok (.getfield 45, 3) := by decide +kernel
theorem d12_4 : decode prog_15_method_2_code 4 = .ok (.aload_n 0, 1) := by decide +kernel
theorem d12_5 : decode prog_15_method_2_code 5 = .ok (.getfield 22, 3) := by decide +kernel
theorem d12_8 : decode prog_15_method_2_code 8 = .ok (.if_icmp .ge 7, 3) := by decide +kernel
theorem d12_11 : decode prog_15_method_2_code 11 = .ok (.iconst 1, 1) := by decide +kernel
theorem d12_12 : decode prog_15_method_2_code 12 = .ok (.goto 4, 3) := by decide +kernel
theorem d12_15 : decode prog_15_method_2_code 15 = .ok (.iconst 0, 1) := by decide +kernel
theorem d12_16 : decode prog_15_method_2_code 16 = .ok (.ireturn, 1) := by decide +kernel
theorem ef_12 (m : MethodId) (r0 : Addr) : entryFrame m #[(.ref r0)] 1 = mkF m 0 #[.val (.ref r0)] [] := by (first | (simp [entryFrame, mkF, argsToLocals, Value.category]; done) | rfl)
def own_r12 (w1 : Int32) (w2 : Int32) : Int32 := (if w1 < w2 then (1 : Int32) else (0 : Int32))
theorem own_r12_b (w1 : Int32) (w2 : Int32) : own_r12 w1 w2 = 0 ∨ own_r12 w1 w2 = 1 := by unfold own_r12; exact (own_ite01 (Or.inr rfl) (Or.inl rfl))
def Q12 (Z : State) (r0 : Addr) (w1 : Int32) (w2 : Int32) (h0 : Heap) (n0 : Nat) (v : Option Value) (h : Heap) (L : List Loc) : Prop := v = some (.int (own_r12 w1 w2)) ∧ Fr n0 L ∧ h = h0
set_option maxRecDepth 65536 in
set_option maxHeartbeats 40000000 in
theorem rm12 (l : Launch) (Z : State) (a0 : Array Value) (hw : ∀ d ∈ tables_1, d.before a0 Z = true) (ws : List Jvm.Cond) (r0 : Addr) (w1 : Int32) (w2 : Int32) (h0 : Heap) (n0 : Nat) (Z0 : n0 ≤ h0.size) (F_index_r0 : Fld Z h0 r0 "com/example/upper_falls/upperfalls/KeyPositions" "index" "I" (.int w1)) (F_hashes_r0 : Fld Z h0 r0 "com/example/upper_falls/upperfalls/KeyPositions" "hashes" "I" (.int w2)) :
    MetFree l (⟨"com/example/upper_falls/upperfalls/KeyPositions", "hasNext", "()Z"⟩ : MethodName) (head1 (Jvm.Cond.code (⟨"com/example/upper_falls/upperfalls/KeyPositions", "hasNext", "()Z"⟩ : MethodName) prog_15_method_2_code 1 (some .boolean) :: ws) ({ frames := 0, cells := 0, slots := 0, locals := 0 } : Room)) (fun a U => a = #[(.ref r0)] ∧ Z.Warmed39 U.vm ∧ U.heap = h0) (fun _ _ _ _ _ => True) (fun _ U o U' => ∃ v L, o = .returned v ∧ Q12 Z r0 w1 w2 h0 n0 v U'.heap L ∧ FrameEnd U o U' L ({ frames := 0, cells := 0, slots := 0, locals := 0 } : Room).cells ({ frames := 0, cells := 0, slots := 0, locals := 0 } : Room).slots) := by
  refine MetFree.of_bodySF (plainFor_of_name pn8) hisR ?_
  intro p e s m args below meth c s₁ Bd hml0 hP hK
  obtain ⟨rfl, hZ, hh⟩ := hP
  have hx := Bd.exec
  have hby := Bd.bytes
  have hml : c.maxLocals = 1 := hml0
  have hown : s.vm.findClass "com/example/upper_falls/upperfalls/KeyPositions" = some m.cls := findClass_of_methodNamed Bd.named
  have hnm := (name_of_methodNamed Bd.named Bd.method).1
  have X0 : Stand p l e ({ frames := 0, cells := 0, slots := 0, locals := 0 } : Room) s m #[(.ref r0)] below meth c s₁ [] 0 0 := Stand.of_body Bd
  have e0 : s₁.heap = h0 := by rw [← hh, Bd.state]; rfl
  have N0 := Fr.nil n0
  have K0 : Keep h0 h0 [] := Keep.refl h0 _
  show own_Go p e below s (Q12 Z r0 w1 w2 h0 n0) ({ frames := 0, cells := 0, slots := 0, locals := 0 } : Room).cells ({ frames := 0, cells := 0, slots := 0, locals := 0 } : Room).slots (s₁.setTop (entryFrame m #[(.ref r0)] 1))
  refine own_go (fun t k => castTop (ef_12 m r0) k) ?_
  obtain ⟨T101, X101, e101, st101⟩ := getF X0 hx hZ hown (host := "") (Or.inl (hw _ (List.mem_of_getElem? (i := 79) rfl))) Via.refl e0 F_index_r0 (g := (mkF m 1 #[.val (.ref r0)] [(.ref r0)])) rfl rfl (hb hby d12_1)
  obtain ⟨T102, X102, e102, st102⟩ := getF X101 hx hZ hown (host := "") (Or.inl (hw _ (List.mem_of_getElem? (i := 53) rfl))) Via.refl e101 F_hashes_r0 (g := (mkF m 5 #[.val (.ref r0)] [(.ref r0), (.int w1)])) rfl rfl (hb hby d12_5)
  obtain ⟨v2, hv2⟩ : ∃ z : Int32, z = (if w1 < w2 then (1 : Int32) else (0 : Int32)) := ⟨_, rfl⟩
  obtain ⟨T105, lc105, X105, N105, e105, st105⟩ := own_mrg (n0 := n0) (h := h0) (g := (mkF m 8 #[.val (.ref r0)] [(.int w2), (.int w1)])) (g' := (mkF m 16 #[.val (.ref r0)] [(.int v2)])) X102 (by
    by_cases hc8_1 : w1 < w2
    · have hgo103 : ∀ t, Steps p.tables e below (T102.setTop (mkF m 16 #[.val (.ref r0)] [(.int (1 : Int32))])) t → Steps p.tables e below (T102.setTop (mkF m 8 #[.val (.ref r0)] [(.int w2), (.int w1)])) t := by
        intro t kt
        show Steps p.tables e below (T102.setTop (mkF m 8 #[.val (.ref r0)] [(.int w2), (.int w1)])) _
        refine XS.icmpNo X102.here hx rfl (hb hby d12_8) rfl (tlt hc8_1).2.1 ?_
        show Steps p.tables e below (T102.setTop (mkF m 11 #[.val (.ref r0)] [])) _
        refine XS.iconst X102.here hx rfl (hb hby d12_11) ?_
        show Steps p.tables e below (T102.setTop (mkF m 12 #[.val (.ref r0)] [(.int (1 : Int32))])) _
        refine XS.goto X102.here hx rfl (pc0 := 12) (pc' := 16) rfl (hb hby d12_12) (by decide) (by decide) ?_
        exact kt
      refine own_arm hgo103 ?_
      exact own_armEnd X102 N0 e102 (by rw [hv2.trans (if_pos hc8_1)])
    · have hgo104 : ∀ t, Steps p.tables e below (T102.setTop (mkF m 16 #[.val (.ref r0)] [(.int (0 : Int32))])) t → Steps p.tables e below (T102.setTop (mkF m 8 #[.val (.ref r0)] [(.int w2), (.int w1)])) t := by
        intro t kt
        show Steps p.tables e below (T102.setTop (mkF m 8 #[.val (.ref r0)] [(.int w2), (.int w1)])) _
        refine XS.icmpYes X102.here hx rfl (pc0 := 8) (pc' := 15) rfl (hb hby d12_8) rfl (flt hc8_1).2.1 (by decide) (by decide) ?_
        show Steps p.tables e below (T102.setTop (mkF m 15 #[.val (.ref r0)] [])) _
        refine XS.iconst X102.here hx rfl (hb hby d12_15) ?_
        exact kt
      refine own_arm hgo104 ?_
      exact own_armEnd X102 N0 e102 (by rw [hv2.trans (if_neg hc8_1)]))
  have hgo106 : ∀ t, Steps p.tables e below (T105.setTop (mkF m 16 #[.val (.ref r0)] [(.int v2)])) t → Steps p.tables e below (s₁.setTop (mkF m 0 #[.val (.ref r0)] [])) t := by
    intro t kt
    show Steps p.tables e below (s₁.setTop (mkF m 0 #[.val (.ref r0)] [])) _
    refine XS.aloadN X0.here hx rfl (hb hby d12_0) rfl rfl ?_
    show Steps p.tables e below (s₁.setTop (mkF m 1 #[.val (.ref r0)] [(.ref r0)])) _
    refine st101 _ ?_
    show Steps p.tables e below (T101.setTop (mkF m 4 #[.val (.ref r0)] [(.int w1)])) _
    refine XS.aloadN X101.here hx rfl (hb hby d12_4) rfl rfl ?_
    show Steps p.tables e below (T101.setTop (mkF m 5 #[.val (.ref r0)] [(.ref r0), (.int w1)])) _
    refine st102 _ ?_
    show Steps p.tables e below (T102.setTop (mkF m 8 #[.val (.ref r0)] [(.int w2), (.int w1)])) _
    refine st105 _ ?_
    exact kt
  refine own_go hgo106 ?_
  exact own_retZ X105 hx Bd.returns Bd.notSynchronized (hb hby d12_16) (by decide) (by decide) (by rw [hv2]; exact (own_ite01 (Or.inr rfl) (Or.inl rfl))) (by rw [e105]; exact ⟨(by subst hv2; rw [own_r12]), N105, rfl⟩)
theorem d13_0 : decode prog_15_method_3_code 0 = .ok (.aload_n 0, 1) := by decide +kernel
theorem d13_1 : decode prog_15_method_3_code 1 = .ok (.getfield 45, 3) := by decide +kernel
theorem d13_4 : decode prog_15_method_3_code 4 = .ok (.aload_n 0, 1) := by decide +kernel
theorem d13_5 : decode prog_15_method_3_code 5 = .ok (.getfield 22, 3) := by decide +kernel
theorem d13_8 : decode prog_15_method_3_code 8 = .ok (.if_icmp .ne 11, 3) := by decide +kernel
theorem d13_19 : decode prog_15_method_3_code 19 = .ok (.aload_n 0, 1) := by decide +kernel
theorem d13_20 : decode prog_15_method_3_code 20 = .ok (.getfield 36, 3) := by decide +kernel
theorem d13_23 : decode prog_15_method_3_code 23 = .ok (.lstore_n 1, 1) := by decide +kernel
theorem d13_24 : decode prog_15_method_3_code 24 = .ok (.aload_n 0, 1) := by decide +kernel
theorem d13_25 : decode prog_15_method_3_code 25 = .ok (.dup, 1) := by decide +kernel
theorem d13_26 : decode prog_15_method_3_code 26 = .ok (.getfield 36, 3) := by decide +kernel
theorem d13_29 : decode prog_15_method_3_code 29 = .ok (.aload_n 0, 1) := by decide +kernel
theorem d13_30 : decode prog_15_method_3_code 30 = .ok (.getfield 42, 3) := by decide +kernel
theorem d13_33 : decode prog_15_method_3_code 33 = .ok (.ladd, 1) := by decide +kernel
theorem d13_34 : decode prog_15_method_3_code 34 = .ok (.putfield 36, 3) := by decide +kernel
theorem d13_37 : decode prog_15_method_3_code 37 = .ok (.aload_n 0, 1) := by decide +kernel
theorem d13_38 : decode prog_15_method_3_code 38 = .ok (.getfield 36, 3) := by decide +kernel
theorem d13_41 : decode prog_15_method_3_code 41 = .ok (.aload_n 0, 1) := by decide +kernel
theorem d13_42 : decode prog_15_method_3_code 42 = .ok (.getfield 13, 3) := by decide +kernel
theorem d13_45 : decode prog_15_method_3_code 45 = .ok (.lcmp, 1) := by decide +kernel
theorem d13_46 : decode prog_15_method_3_code 46 = .ok (.ifCond .lt 16, 3) := by decide +kernel
theorem d13_49 : decode prog_15_method_3_code 49 = .ok (.aload_n 0, 1) := by decide +kernel
theorem d13_50 : decode prog_15_method_3_code 50 = .ok (.dup, 1) := by decide +kernel
theorem d13_51 : decode prog_15_method_3_code 51 = .ok (.getfield 36, 3) := by decide +kernel
theorem d13_54 : decode prog_15_method_3_code 54 = .ok (.aload_n 0, 1) := by decide +kernel
theorem d13_55 : decode prog_15_method_3_code 55 = .ok (.getfield 13, 3) := by decide +kernel
theorem d13_58 : decode prog_15_method_3_code 58 = .ok (.lsub, 1) := by decide +kernel
theorem d13_59 : decode prog_15_method_3_code 59 = .ok (.putfield 36, 3) := by decide +kernel
theorem d13_62 : decode prog_15_method_3_code 62 = .ok (.aload_n 0, 1) := by decide +kernel
theorem d13_63 : decode prog_15_method_3_code 63 = .ok (.dup, 1) := by decide +kernel
theorem d13_64 : decode prog_15_method_3_code 64 = .ok (.getfield 42, 3) := by decide +kernel
theorem d13_67 : decode prog_15_method_3_code 67 = .ok (.aload_n 0, 1) := by decide +kernel
theorem d13_68 : decode prog_15_method_3_code 68 = .ok (.getfield 45, 3) := by decide +kernel
theorem d13_71 : decode prog_15_method_3_code 71 = .ok (.iconst 1, 1) := by decide +kernel
theorem d13_72 : decode prog_15_method_3_code 72 = .ok (.iadd, 1) := by decide +kernel
theorem d13_73 : decode prog_15_method_3_code 73 = .ok (.i2l, 1) := by decide +kernel
theorem d13_74 : decode prog_15_method_3_code 74 = .ok (.ladd, 1) := by decide +kernel
theorem d13_75 : decode prog_15_method_3_code 75 = .ok (.putfield 42, 3) := by decide +kernel
theorem d13_78 : decode prog_15_method_3_code 78 = .ok (.aload_n 0, 1) := by decide +kernel
theorem d13_79 : decode prog_15_method_3_code 79 = .ok (.getfield 42, 3) := by decide +kernel
theorem d13_82 : decode prog_15_method_3_code 82 = .ok (.aload_n 0, 1) := by decide +kernel
theorem d13_83 : decode prog_15_method_3_code 83 = .ok (.getfield 13, 3) := by decide +kernel
theorem d13_86 : decode prog_15_method_3_code 86 = .ok (.lcmp, 1) := by decide +kernel
theorem d13_87 : decode prog_15_method_3_code 87 = .ok (.ifCond .lt 16, 3) := by decide +kernel
theorem d13_90 : decode prog_15_method_3_code 90 = .ok (.aload_n 0, 1) := by decide +kernel
theorem d13_91 : decode prog_15_method_3_code 91 = .ok (.dup, 1) := by decide +kernel
theorem d13_92 : decode prog_15_method_3_code 92 = .ok (.getfield 42, 3) := by decide +kernel
theorem d13_95 : decode prog_15_method_3_code 95 = .ok (.aload_n 0, 1) := by decide +kernel
theorem d13_96 : decode prog_15_method_3_code 96 = .ok (.getfield 13, 3) := by decide +kernel
theorem d13_99 : decode prog_15_method_3_code 99 = .ok (.lrem, 1) := by decide +kernel
theorem d13_100 : decode prog_15_method_3_code 100 = .ok (.putfield 42, 3) := by decide +kernel
theorem d13_103 : decode prog_15_method_3_code 103 = .ok (.aload_n 0, 1) := by decide +kernel
theorem d13_104 : decode prog_15_method_3_code 104 = .ok (.dup, 1) := by decide +kernel
theorem d13_105 : decode prog_15_method_3_code 105 = .ok (.getfield 45, 3) := by decide +kernel
theorem d13_108 : decode prog_15_method_3_code 108 = .ok (.iconst 1, 1) := by decide +kernel
theorem d13_109 : decode prog_15_method_3_code 109 = .ok (.iadd, 1) := by decide +kernel
theorem d13_110 : decode prog_15_method_3_code 110 = .ok (.putfield 45, 3) := by decide +kernel
theorem d13_113 : decode prog_15_method_3_code 113 = .ok (.lload_n 1, 1) := by decide +kernel
theorem d13_114 : decode prog_15_method_3_code 114 = .ok (.lreturn, 1) := by decide +kernel
theorem ef_13 (m : MethodId) (r0 : Addr) : entryFrame m #[(.ref r0)] 3 = mkF m 0 #[.val (.ref r0), .unset, .unset] [] := by (first | (simp [entryFrame, mkF, argsToLocals, Value.category]; done) | rfl)
def own_r13 (wi : Int32) (wb : Int64) (w4 : Int64) (w5 : Int64) : Int64 := (if (w4 + w5) < wb then (if (w5 + ((wi + (1 : Int32)).toInt64)) < wb then w4 else w4) else (if (w5 + ((wi + (1 : Int32)).toInt64)) < wb then w4 else w4))
def Q13 (Z : State) (r0 : Addr) (wi : Int32) (wh : Int32) (wb : Int64) (w4 : Int64) (w5 : Int64) (h0 : Heap) (n0 : Nat) (v : Option Value) (h : Heap) (L : List Loc) : Prop := ∃ x0 : Int64, ∃ x1 : Int64, v = some (.long (own_r13 wi wb w4 w5)) ∧ Fr n0 L ∧ Keep h0 h [r0] ∧ Exa Z h r0 "com/example/upper_falls/upperfalls/KeyPositions" ∧ Fld Z h r0 "com/example/upper_falls/upperfalls/KeyPositions" "index" "I" (.int (wi + (1 : Int32))) ∧ Fld Z h r0 "com/example/upper_falls/upperfalls/KeyPositions" "hashes" "I" (.int wh) ∧ Fld Z h r0 "com/example/upper_falls/upperfalls/KeyPositions" "bits" "J" (.long wb) ∧ Fld Z h r0 "com/example/upper_falls/upperfalls/KeyPositions" "position" "J" (.long x0) ∧ Fld Z h r0 "com/example/upper_falls/upperfalls/KeyPositions" "step" "J" (.long x1)
set_option maxRecDepth 65536 in
set_option maxHeartbeats 40000000 in
theorem rm13 (l : Launch) (Z : State) (a0 : Array Value) (hw : ∀ d ∈ tables_1, d.before a0 Z = true) (ws : List Jvm.Cond) (r0 : Addr) (wi : Int32) (wh : Int32) (wb : Int64) (w4 : Int64) (w5 : Int64) (h0 : Heap) (n0 : Nat) (Z0 : n0 ≤ h0.size) (F_index_r0 : Fld Z h0 r0 "com/example/upper_falls/upperfalls/KeyPositions" "index" "I" (.int wi)) (F_hashes_r0 : Fld Z h0 r0 "com/example/upper_falls/upperfalls/KeyPositions" "hashes" "I" (.int wh)) (F_bits_r0 : Fld Z h0 r0 "com/example/upper_falls/upperfalls/KeyPositions" "bits" "J" (.long wb)) (hn1 : ¬ (wi = wh)) (hz3 : ¬ (wb = (0 : Int64))) (F_position_r0 : Fld Z h0 r0 "com/example/upper_falls/upperfalls/KeyPositions" "position" "J" (.long w4)) (F_step_r0 : Fld Z h0 r0 "com/example/upper_falls/upperfalls/KeyPositions" "step" "J" (.long w5)) (E_r0 : Exa Z h0 r0 "com/example/upper_falls/upperfalls/KeyPositions") (g_r0 : n0 ≤ r0) :
    MetFree l (⟨"com/example/upper_falls/upperfalls/KeyPositions", "next", "()J"⟩ : MethodName) (head1 (Jvm.Cond.code (⟨"com/example/upper_falls/upperfalls/KeyPositions", "next", "()J"⟩ : MethodName) prog_15_method_3_code 3 (some .long) :: ws) ({ frames := 0, cells := 0, slots := 0, locals := 0 } : Room)) (fun a U => a = #[(.ref r0)] ∧ Z.Warmed39 U.vm ∧ U.heap = h0) (fun _ _ _ _ _ => True) (fun _ U o U' => ∃ v L, o = .returned v ∧ Q13 Z r0 wi wh wb w4 w5 h0 n0 v U'.heap L ∧ FrameEnd U o U' L ({ frames := 0, cells := 0, slots := 0, locals := 0 } : Room).cells ({ frames := 0, cells := 0, slots := 0, locals := 0 } : Room).slots) := by
  refine MetFree.of_bodySF (plainFor_of_name pn8) hisR ?_
  intro p e s m args below meth c s₁ Bd hml0 hP hK
  obtain ⟨rfl, hZ, hh⟩ := hP
  have hx := Bd.exec
  have hby := Bd.bytes
  have hml : c.maxLocals = 3 := hml0
  have hown : s.vm.findClass "com/example/upper_falls/upperfalls/KeyPositions" = some m.cls := findClass_of_methodNamed Bd.named
  have hnm := (name_of_methodNamed Bd.named Bd.method).1
  have X0 : Stand p l e ({ frames := 0, cells := 0, slots := 0, locals := 0 } : Room) s m #[(.ref r0)] below meth c s₁ [] 0 0 := Stand.of_body Bd
  have e0 : s₁.heap = h0 := by rw [← hh, Bd.state]; rfl
  have N0 := Fr.nil n0
  have K0 : Keep h0 h0 [r0] := Keep.refl h0 _
  show own_Go p e below s (Q13 Z r0 wi wh wb w4 w5 h0 n0) ({ frames := 0, cells := 0, slots := 0, locals := 0 } : Room).cells ({ frames := 0, cells := 0, slots := 0, locals := 0 } : Room).slots (s₁.setTop (entryFrame m #[(.ref r0)] 3))
  refine own_go (fun t k => castTop (ef_13 m r0) k) ?_
  obtain ⟨T101, X101, e101, st101⟩ := getF X0 hx hZ hown (host := "") (Or.inl (hw _ (List.mem_of_getElem? (i := 79) rfl))) Via.refl e0 F_index_r0 (g := (mkF m 1 #[.val (.ref r0), .unset, .unset] [(.ref r0)])) rfl rfl (hb hby d13_1)
  obtain ⟨T102, X102, e102, st102⟩ := getF X101 hx hZ hown (host := "") (Or.inl (hw _ (List.mem_of_getElem? (i := 53) rfl))) Via.refl e101 F_hashes_r0 (g := (mkF m 5 #[.val (.ref r0), .unset, .unset] [(.ref r0), (.int wi)])) rfl rfl (hb hby d13_5)
  obtain ⟨T103, X103, e103, st103⟩ := getF X102 hx hZ hown (host := "") (Or.inl (hw _ (List.mem_of_getElem? (i := 65) rfl))) Via.refl e102 F_position_r0 (g := (mkF m 20 #[.val (.ref r0), .unset, .unset] [(.ref r0)])) rfl rfl (hb hby d13_20)
  obtain ⟨T104, X104, e104, st104⟩ := getF X103 hx hZ hown (host := "") (Or.inl (hw _ (List.mem_of_getElem? (i := 65) rfl))) Via.refl e103 F_position_r0 (g := (mkF m 26 #[.val (.ref r0), .val (.long w4), .second] [(.ref r0), (.ref r0)])) rfl rfl (hb hby d13_26)
  obtain ⟨T105, X105, e105, st105⟩ := getF X104 hx hZ hown (host := "") (Or.inl (hw _ (List.mem_of_getElem? (i := 72) rfl))) Via.refl e104 F_step_r0 (g := (mkF m 30 #[.val (.ref r0), .val (.long w4), .second] [(.ref r0), (.long w4), (.ref r0)])) rfl rfl (hb hby d13_30)
  obtain ⟨v1, hv1⟩ : ∃ z : Int64, z = (w4 + w5) := ⟨_, rfl⟩
  obtain ⟨T106, h106, X106, e106, W106, st106⟩ := putF X105 hx hZ hown (host := "") (Or.inl (hw _ (List.mem_of_getElem? (i := 65) rfl))) Via.refl e105 F_position_r0 E_r0 (Or.inl (hw _ (List.mem_of_getElem? (i := 66) rfl))) (hw _ (List.mem_of_getElem? (i := 35) rfl)) (ty := .long) (by decide) rfl rfl (g := (mkF m 34 #[.val (.ref r0), .val (.long w4), .second] [(.long v1), (.ref r0)])) rfl rfl (hb hby d13_34)
  have F107 := F_index_r0.other W106 (Or.inr (slot_ne (Or.inl (hw _ (List.mem_of_getElem? (i := 80) rfl))) (Or.inl (hw _ (List.mem_of_getElem? (i := 66) rfl))) (by decide) (t := .int) (t' := .long) (by decide) (by decide)))
  have F108 := F_hashes_r0.other W106 (Or.inr (slot_ne (Or.inr (hw _ (List.mem_of_getElem? (i := 54) rfl))) (Or.inl (hw _ (List.mem_of_getElem? (i := 66) rfl))) (by decide) (t := .int) (t' := .long) (by decide) (by decide)))
  have F109 := F_bits_r0.other W106 (Or.inr (slot_ne (Or.inr (hw _ (List.mem_of_getElem? (i := 47) rfl))) (Or.inl (hw _ (List.mem_of_getElem? (i := 66) rfl))) (by decide) (t := .long) (t' := .long) (by decide) (by decide)))
  have F110 := F_position_r0.same W106
  have F111 := F_step_r0.other W106 (Or.inr (slot_ne (Or.inl (hw _ (List.mem_of_getElem? (i := 73) rfl))) (Or.inl (hw _ (List.mem_of_getElem? (i := 66) rfl))) (by decide) (t := .long) (t' := .long) (by decide) (by decide)))
  have F112 := E_r0.wr W106
  have Z113 : n0 ≤ h106.size := Nat.le_trans Z0 (Keep.of_wr W106).1
  have K114 : Keep h0 h106 [r0] := K0.wr W106 (Or.inl (List.mem_of_getElem? (i := 0) rfl))
  have N115 := Fr.snoc X106 N0 g_r0
  obtain ⟨T116, X116, e116, st116⟩ := getF X106 hx hZ hown (host := "") (Or.inl (hw _ (List.mem_of_getElem? (i := 65) rfl))) Via.refl e106 F110 (g := (mkF m 38 #[.val (.ref r0), .val (.long w4), .second] [(.ref r0)])) rfl rfl (hb hby d13_38)
  obtain ⟨T117, X117, e117, st117⟩ := getF X116 hx hZ hown (host := "") (Or.inl (hw _ (List.mem_of_getElem? (i := 46) rfl))) Via.refl e116 F109 (g := (mkF m 42 #[.val (.ref r0), .val (.long w4), .second] [(.ref r0), (.long v1)])) rfl rfl (hb hby d13_42)
  have hgo121 : ∀ t, Steps p.tables e below (T117.setTop (mkF m 46 #[.val (.ref r0), .val (.long w4), .second] [(.int (lcmpW v1 wb))])) t → Steps p.tables e below (s₁.setTop (mkF m 0 #[.val (.ref r0), .unset, .unset] [])) t := by
    intro t kt
    show Steps p.tables e below (s₁.setTop (mkF m 0 #[.val (.ref r0), .unset, .unset] [])) _
    refine XS.aloadN X0.here hx rfl (hb hby d13_0) rfl rfl ?_
    show Steps p.tables e below (s₁.setTop (mkF m 1 #[.val (.ref r0), .unset, .unset] [(.ref r0)])) _
    refine st101 _ ?_
    show Steps p.tables e below (T101.setTop (mkF m 4 #[.val (.ref r0), .unset, .unset] [(.int wi)])) _
    refine XS.aloadN X101.here hx rfl (hb hby d13_4) rfl rfl ?_
    show Steps p.tables e below (T101.setTop (mkF m 5 #[.val (.ref r0), .unset, .unset] [(.ref r0), (.int wi)])) _
    refine st102 _ ?_
    show Steps p.tables e below (T102.setTop (mkF m 8 #[.val (.ref r0), .unset, .unset] [(.int wh), (.int wi)])) _
    refine XS.icmpYes X102.here hx rfl (pc0 := 8) (pc' := 19) rfl (hb hby d13_8) rfl (feq hn1).2 (by decide) (by decide) ?_
    show Steps p.tables e below (T102.setTop (mkF m 19 #[.val (.ref r0), .unset, .unset] [])) _
    refine XS.aloadN X102.here hx rfl (hb hby d13_19) rfl rfl ?_
    show Steps p.tables e below (T102.setTop (mkF m 20 #[.val (.ref r0), .unset, .unset] [(.ref r0)])) _
    refine st103 _ ?_
    show Steps p.tables e below (T103.setTop (mkF m 23 #[.val (.ref r0), .unset, .unset] [(.long w4)])) _
    refine XS.lstoreN X103.here hx rfl (hb hby d13_23) rfl (l' := #[.val (.ref r0), .val (.long w4), .second]) rfl ?_
    show Steps p.tables e below (T103.setTop (mkF m 24 #[.val (.ref r0), .val (.long w4), .second] [])) _
    refine XS.aloadN X103.here hx rfl (hb hby d13_24) rfl rfl ?_
    show Steps p.tables e below (T103.setTop (mkF m 25 #[.val (.ref r0), .val (.long w4), .second] [(.ref r0)])) _
    refine XS.dup X103.here hx rfl (hb hby d13_25) rfl rfl ?_
    show Steps p.tables e below (T103.setTop (mkF m 26 #[.val (.ref r0), .val (.long w4), .second] [(.ref r0), (.ref r0)])) _
    refine st104 _ ?_
    show Steps p.tables e below (T104.setTop (mkF m 29 #[.val (.ref r0), .val (.long w4), .second] [(.long w4), (.ref r0)])) _
    refine XS.aloadN X104.here hx rfl (hb hby d13_29) rfl rfl ?_
    show Steps p.tables e below (T104.setTop (mkF m 30 #[.val (.ref r0), .val (.long w4), .second] [(.ref r0), (.long w4), (.ref r0)])) _
    refine st105 _ ?_
    show Steps p.tables e below (T105.setTop (mkF m 33 #[.val (.ref r0), .val (.long w4), .second] [(.long w5), (.long w4), (.ref r0)])) _
    refine XS.ladd X105.here hx rfl (hb hby d13_33) rfl ?_
    show Steps p.tables e below (T105.setTop (mkF m 34 #[.val (.ref r0), .val (.long w4), .second] [(.long (w4 + w5)), (.ref r0)])) _
    rw [← hv1]
    refine st106 _ ?_
    show Steps p.tables e below (T106.setTop (mkF m 37 #[.val (.ref r0), .val (.long w4), .second] [])) _
    refine XS.aloadN X106.here hx rfl (hb hby d13_37) rfl rfl ?_
    show Steps p.tables e below (T106.setTop (mkF m 38 #[.val (.ref r0), .val (.long w4), .second] [(.ref r0)])) _
    refine st116 _ ?_
    show Steps p.tables e below (T116.setTop (mkF m 41 #[.val (.ref r0), .val (.long w4), .second] [(.long v1)])) _
    refine XS.aloadN X116.here hx rfl (hb hby d13_41) rfl rfl ?_
    show Steps p.tables e below (T116.setTop (mkF m 42 #[.val (.ref r0), .val (.long w4), .second] [(.ref r0), (.long v1)])) _
    refine st117 _ ?_
    show Steps p.tables e below (T117.setTop (mkF m 45 #[.val (.ref r0), .val (.long w4), .second] [(.long wb), (.long v1)])) _
    refine XS.lcmp X117.here hx rfl (hb hby d13_45) rfl ?_
    exact kt
  refine own_go hgo121 ?_
  by_cases hc46_2 : v1 < wb
  · obtain ⟨T122, X122, e122, st122⟩ := getF X117 hx hZ hown (host := "") (Or.inl (hw _ (List.mem_of_getElem? (i := 72) rfl))) Via.refl e117 F111 (g := (mkF m 64 #[.val (.ref r0), .val (.long w4), .second] [(.ref r0), (.ref r0)])) rfl rfl (hb hby d13_64)
    obtain ⟨T123, X123, e123, st123⟩ := getF X122 hx hZ hown (host := "") (Or.inl (hw _ (List.mem_of_getElem? (i := 79) rfl))) Via.refl e122 F107 (g := (mkF m 68 #[.val (.ref r0), .val (.long w4), .second] [(.ref r0), (.long w5), (.ref r0)])) rfl rfl (hb hby d13_68)
    obtain ⟨v3, hv3⟩ : ∃ z : Int64, z = (w5 + ((wi + (1 : Int32)).toInt64)) := ⟨_, rfl⟩
    obtain ⟨T124, h124, X124, e124, W124, st124⟩ := putF X123 hx hZ hown (host := "") (Or.inl (hw _ (List.mem_of_getElem? (i := 72) rfl))) Via.refl e123 F111 F112 (Or.inl (hw _ (List.mem_of_getElem? (i := 73) rfl))) (hw _ (List.mem_of_getElem? (i := 35) rfl)) (ty := .long) (by decide) rfl rfl (g := (mkF m 75 #[.val (.ref r0), .val (.long w4), .second] [(.long v3), (.ref r0)])) rfl rfl (hb hby d13_75)
    have F125 := F107.other W124 (Or.inr (slot_ne (Or.inl (hw _ (List.mem_of_getElem? (i := 80) rfl))) (Or.inl (hw _ (List.mem_of_getElem? (i := 73) rfl))) (by decide) (t := .int) (t' := .long) (by decide) (by decide)))
    have F126 := F108.other W124 (Or.inr (slot_ne (Or.inr (hw _ (List.mem_of_getElem? (i := 54) rfl))) (Or.inl (hw _ (List.mem_of_getElem? (i := 73) rfl))) (by decide) (t := .int) (t' := .long) (by decide) (by decide)))
    have F127 := F109.other W124 (Or.inr (slot_ne (Or.inr (hw _ (List.mem_of_getElem? (i := 47) rfl))) (Or.inl (hw _ (List.mem_of_getElem? (i := 73) rfl))) (by decide) (t := .long) (t' := .long) (by decide) (by decide)))
    have F128 := F110.other W124 (Or.inr (slot_ne (Or.inl (hw _ (List.mem_of_getElem? (i := 66) rfl))) (Or.inl (hw _ (List.mem_of_getElem? (i := 73) rfl))) (by decide) (t := .long) (t' := .long) (by decide) (by decide)))
    have F129 := F111.same W124
    have F130 := F112.wr W124
    have Z131 : n0 ≤ h124.size := Nat.le_trans Z113 (Keep.of_wr W124).1
    have K132 : Keep h0 h124 [r0] := K114.wr W124 (Or.inl (List.mem_of_getElem? (i := 0) rfl))
    have N133 := Fr.snoc X124 N115 g_r0
    obtain ⟨T134, X134, e134, st134⟩ := getF X124 hx hZ hown (host := "") (Or.inl (hw _ (List.mem_of_getElem? (i := 72) rfl))) Via.refl e124 F129 (g := (mkF m 79 #[.val (.ref r0), .val (.long w4), .second] [(.ref r0)])) rfl rfl (hb hby d13_79)
    obtain ⟨T135, X135, e135, st135⟩ := getF X134 hx hZ hown (host := "") (Or.inl (hw _ (List.mem_of_getElem? (i := 46) rfl))) Via.refl e134 F127 (g := (mkF m 83 #[.val (.ref r0), .val (.long w4), .second] [(.ref r0), (.long v3)])) rfl rfl (hb hby d13_83)
    have hgo140 : ∀ t, Steps p.tables e below (T135.setTop (mkF m 87 #[.val (.ref r0), .val (.long w4), .second] [(.int (lcmpW v3 wb))])) t → Steps p.tables e below (T117.setTop (mkF m 46 #[.val (.ref r0), .val (.long w4), .second] [(.int (lcmpW v1 wb))])) t := by
      intro t kt
      show Steps p.tables e below (T117.setTop (mkF m 46 #[.val (.ref r0), .val (.long w4), .second] [(.int (lcmpW v1 wb))])) _
      refine XS.ifYes X117.here hx rfl (pc0 := 46) (pc' := 62) rfl (hb hby d13_46) rfl ((if0 _ _).trans (tlt (own_lc_lt hc46_2)).1) (by decide) (by decide) ?_
      show Steps p.tables e below (T117.setTop (mkF m 62 #[.val (.ref r0), .val (.long w4), .second] [])) _
      refine XS.aloadN X117.here hx rfl (hb hby d13_62) rfl rfl ?_
      show Steps p.tables e below (T117.setTop (mkF m 63 #[.val (.ref r0), .val (.long w4), .second] [(.ref r0)])) _
      refine XS.dup X117.here hx rfl (hb hby d13_63) rfl rfl ?_
      show Steps p.tables e below (T117.setTop (mkF m 64 #[.val (.ref r0), .val (.long w4), .second] [(.ref r0), (.ref r0)])) _
      refine st122 _ ?_
      show Steps p.tables e below (T122.setTop (mkF m 67 #[.val (.ref r0), .val (.long w4), .second] [(.long w5), (.ref r0)])) _
      refine XS.aloadN X122.here hx rfl (hb hby d13_67) rfl rfl ?_
      show Steps p.tables e below (T122.setTop (mkF m 68 #[.val (.ref r0), .val (.long w4), .second] [(.ref r0), (.long w5), (.ref r0)])) _
      refine st123 _ ?_
      show Steps p.tables e below (T123.setTop (mkF m 71 #[.val (.ref r0), .val (.long w4), .second] [(.int wi), (.long w5), (.ref r0)])) _
      refine XS.iconst X123.here hx rfl (hb hby d13_71) ?_
      show Steps p.tables e below (T123.setTop (mkF m 72 #[.val (.ref r0), .val (.long w4), .second] [(.int (1 : Int32)), (.int wi), (.long w5), (.ref r0)])) _
      refine XS.iadd X123.here hx rfl (hb hby d13_72) rfl ?_
      show Steps p.tables e below (T123.setTop (mkF m 73 #[.val (.ref r0), .val (.long w4), .second] [(.int (wi + (1 : Int32))), (.long w5), (.ref r0)])) _
      refine XS.i2l X123.here hx rfl (hb hby d13_73) rfl ?_
      show Steps p.tables e below (T123.setTop (mkF m 74 #[.val (.ref r0), .val (.long w4), .second] [(.long ((wi + (1 : Int32)).toInt64)), (.long w5), (.ref r0)])) _
      refine XS.ladd X123.here hx rfl (hb hby d13_74) rfl ?_
      show Steps p.tables e below (T123.setTop (mkF m 75 #[.val (.ref r0), .val (.long w4), .second] [(.long (w5 + ((wi + (1 : Int32)).toInt64))), (.ref r0)])) _
      rw [← hv3]
      refine st124 _ ?_
      show Steps p.tables e below (T124.setTop (mkF m 78 #[.val (.ref r0), .val (.long w4), .second] [])) _
      refine XS.aloadN X124.here hx rfl (hb hby d13_78) rfl rfl ?_
      show Steps p.tables e below (T124.setTop (mkF m 79 #[.val (.ref r0), .val (.long w4), .second] [(.ref r0)])) _
      refine st134 _ ?_
      show Steps p.tables e below (T134.setTop (mkF m 82 #[.val (.ref r0), .val (.long w4), .second] [(.long v3)])) _
      refine XS.aloadN X134.here hx rfl (hb hby d13_82) rfl rfl ?_
      show Steps p.tables e below (T134.setTop (mkF m 83 #[.val (.ref r0), .val (.long w4), .second] [(.ref r0), (.long v3)])) _
      refine st135 _ ?_
      show Steps p.tables e below (T135.setTop (mkF m 86 #[.val (.ref r0), .val (.long w4), .second] [(.long wb), (.long v3)])) _
      refine XS.lcmp X135.here hx rfl (hb hby d13_86) rfl ?_
      exact kt
    refine own_go hgo140 ?_
    by_cases hc87_4 : v3 < wb
    · obtain ⟨T141, X141, e141, st141⟩ := getF X135 hx hZ hown (host := "") (Or.inl (hw _ (List.mem_of_getElem? (i := 79) rfl))) Via.refl e135 F125 (g := (mkF m 105 #[.val (.ref r0), .val (.long w4), .second] [(.ref r0), (.ref r0)])) rfl rfl (hb hby d13_105)
      obtain ⟨v5, hv5⟩ : ∃ z : Int32, z = (wi + (1 : Int32)) := ⟨_, rfl⟩
      obtain ⟨T142, h142, X142, e142, W142, st142⟩ := putF X141 hx hZ hown (host := "") (Or.inl (hw _ (List.mem_of_getElem? (i := 79) rfl))) Via.refl e141 F125 F130 (Or.inl (hw _ (List.mem_of_getElem? (i := 80) rfl))) (hw _ (List.mem_of_getElem? (i := 35) rfl)) (ty := .int) (by decide) rfl rfl (g := (mkF m 110 #[.val (.ref r0), .val (.long w4), .second] [(.int v5), (.ref r0)])) rfl rfl (hb hby d13_110)
      have F143 := F125.same W142
      have F144 := F126.other W142 (Or.inr (slot_ne (Or.inr (hw _ (List.mem_of_getElem? (i := 54) rfl))) (Or.inl (hw _ (List.mem_of_getElem? (i := 80) rfl))) (by decide) (t := .int) (t' := .int) (by decide) (by decide)))
      have F145 := F127.other W142 (Or.inr (slot_ne (Or.inr (hw _ (List.mem_of_getElem? (i := 47) rfl))) (Or.inl (hw _ (List.mem_of_getElem? (i := 80) rfl))) (by decide) (t := .long) (t' := .int) (by decide) (by decide)))
      have F146 := F128.other W142 (Or.inr (slot_ne (Or.inl (hw _ (List.mem_of_getElem? (i := 66) rfl))) (Or.inl (hw _ (List.mem_of_getElem? (i := 80) rfl))) (by decide) (t := .long) (t' := .int) (by decide) (by decide)))
      have F147 := F129.other W142 (Or.inr (slot_ne (Or.inl (hw _ (List.mem_of_getElem? (i := 73) rfl))) (Or.inl (hw _ (List.mem_of_getElem? (i := 80) rfl))) (by decide) (t := .long) (t' := .int) (by decide) (by decide)))
      have F148 := F130.wr W142
      have Z149 : n0 ≤ h142.size := Nat.le_trans Z131 (Keep.of_wr W142).1
      have K150 : Keep h0 h142 [r0] := K132.wr W142 (Or.inl (List.mem_of_getElem? (i := 0) rfl))
      have N151 := Fr.snoc X142 N133 g_r0
      have hgo152 : ∀ t, Steps p.tables e below (T142.setTop (mkF m 114 #[.val (.ref r0), .val (.long w4), .second] [(.long w4)])) t → Steps p.tables e below (T135.setTop (mkF m 87 #[.val (.ref r0), .val (.long w4), .second] [(.int (lcmpW v3 wb))])) t := by
        intro t kt
        show Steps p.tables e below (T135.setTop (mkF m 87 #[.val (.ref r0), .val (.long w4), .second] [(.int (lcmpW v3 wb))])) _
        refine XS.ifYes X135.here hx rfl (pc0 := 87) (pc' := 103) rfl (hb hby d13_87) rfl ((if0 _ _).trans (tlt (own_lc_lt hc87_4)).1) (by decide) (by decide) ?_
        show Steps p.tables e below (T135.setTop (mkF m 103 #[.val (.ref r0), .val (.long w4), .second] [])) _
        refine XS.aloadN X135.here hx rfl (hb hby d13_103) rfl rfl ?_
        show Steps p.tables e below (T135.setTop (mkF m 104 #[.val (.ref r0), .val (.long w4), .second] [(.ref r0)])) _
        refine XS.dup X135.here hx rfl (hb hby d13_104) rfl rfl ?_
        show Steps p.tables e below (T135.setTop (mkF m 105 #[.val (.ref r0), .val (.long w4), .second] [(.ref r0), (.ref r0)])) _
        refine st141 _ ?_
        show Steps p.tables e below (T141.setTop (mkF m 108 #[.val (.ref r0), .val (.long w4), .second] [(.int wi), (.ref r0)])) _
        refine XS.iconst X141.here hx rfl (hb hby d13_108) ?_
        show Steps p.tables e below (T141.setTop (mkF m 109 #[.val (.ref r0), .val (.long w4), .second] [(.int (1 : Int32)), (.int wi), (.ref r0)])) _
        refine XS.iadd X141.here hx rfl (hb hby d13_109) rfl ?_
        show Steps p.tables e below (T141.setTop (mkF m 110 #[.val (.ref r0), .val (.long w4), .second] [(.int (wi + (1 : Int32))), (.ref r0)])) _
        rw [← hv5]
        refine st142 _ ?_
        show Steps p.tables e below (T142.setTop (mkF m 113 #[.val (.ref r0), .val (.long w4), .second] [])) _
        refine XS.lloadN X142.here hx rfl (hb hby d13_113) rfl ?_
        exact kt
      refine own_go hgo152 ?_
      exact own_retJ X142 hx Bd.returns Bd.notSynchronized (hb hby d13_114) (by decide) (by decide) (by rw [e142]; exact ⟨v1, v3, (by subst hv5 hv3 hv1; rw [own_r13, if_pos hc46_2, if_pos hc87_4]), N151, K150, F148, (by subst hv5 hv3 hv1; exact F143), (by subst hv5 hv3 hv1; exact F144), (by subst hv5 hv3 hv1; exact F145), F146, F147⟩)
    · obtain ⟨T153, X153, e153, st153⟩ := getF X135 hx hZ hown (host := "") (Or.inl (hw _ (List.mem_of_getElem? (i := 72) rfl))) Via.refl e135 F129 (g := (mkF m 92 #[.val (.ref r0), .val (.long w4), .second] [(.ref r0), (.ref r0)])) rfl rfl (hb hby d13_92)
      obtain ⟨T154, X154, e154, st154⟩ := getF X153 hx hZ hown (host := "") (Or.inl (hw _ (List.mem_of_getElem? (i := 46) rfl))) Via.refl e153 F127 (g := (mkF m 96 #[.val (.ref r0), .val (.long w4), .second] [(.ref r0), (.long v3), (.ref r0)])) rfl rfl (hb hby d13_96)
      have hnz99_155 : ¬ (wb = (0 : Int64)) := hz3
      obtain ⟨v6, hv6⟩ : ∃ z : Int64, z = (v3 % wb) := ⟨_, rfl⟩
      obtain ⟨T156, h156, X156, e156, W156, st156⟩ := putF X154 hx hZ hown (host := "") (Or.inl (hw _ (List.mem_of_getElem? (i := 72) rfl))) Via.refl e154 F129 F130 (Or.inl (hw _ (List.mem_of_getElem? (i := 73) rfl))) (hw _ (List.mem_of_getElem? (i := 35) rfl)) (ty := .long) (by decide) rfl rfl (g := (mkF m 100 #[.val (.ref r0), .val (.long w4), .second] [(.long v6), (.ref r0)])) rfl rfl (hb hby d13_100)
      have F157 := F125.other W156 (Or.inr (slot_ne (Or.inl (hw _ (List.mem_of_getElem? (i := 80) rfl))) (Or.inl (hw _ (List.mem_of_getElem? (i := 73) rfl))) (by decide) (t := .int) (t' := .long) (by decide) (by decide)))
      have F158 := F126.other W156 (Or.inr (slot_ne (Or.inr (hw _ (List.mem_of_getElem? (i := 54) rfl))) (Or.inl (hw _ (List.mem_of_getElem? (i := 73) rfl))) (by decide) (t := .int) (t' := .long) (by decide) (by decide)))
      have F159 := F127.other W156 (Or.inr (slot_ne (Or.inr (hw _ (List.mem_of_getElem? (i := 47) rfl))) (Or.inl (hw _ (List.mem_of_getElem? (i := 73) rfl))) (by decide) (t := .long) (t' := .long) (by decide) (by decide)))
      have F160 := F128.other W156 (Or.inr (slot_ne (Or.inl (hw _ (List.mem_of_getElem? (i := 66) rfl))) (Or.inl (hw _ (List.mem_of_getElem? (i := 73) rfl))) (by decide) (t := .long) (t' := .long) (by decide) (by decide)))
      have F161 := F129.same W156
      have F162 := F130.wr W156
      have Z163 : n0 ≤ h156.size := Nat.le_trans Z131 (Keep.of_wr W156).1
      have K164 : Keep h0 h156 [r0] := K132.wr W156 (Or.inl (List.mem_of_getElem? (i := 0) rfl))
      have N165 := Fr.snoc X156 N133 g_r0
      obtain ⟨T166, X166, e166, st166⟩ := getF X156 hx hZ hown (host := "") (Or.inl (hw _ (List.mem_of_getElem? (i := 79) rfl))) Via.refl e156 F157 (g := (mkF m 105 #[.val (.ref r0), .val (.long w4), .second] [(.ref r0), (.ref r0)])) rfl rfl (hb hby d13_105)
      obtain ⟨v7, hv7⟩ : ∃ z : Int32, z = (wi + (1 : Int32)) := ⟨_, rfl⟩
      obtain ⟨T167, h167, X167, e167, W167, st167⟩ := putF X166 hx hZ hown (host := "") (Or.inl (hw _ (List.mem_of_getElem? (i := 79) rfl))) Via.refl e166 F157 F162 (Or.inl (hw _ (List.mem_of_getElem? (i := 80) rfl))) (hw _ (List.mem_of_getElem? (i := 35) rfl)) (ty := .int) (by decide) rfl rfl (g := (mkF m 110 #[.val (.ref r0), .val (.long w4), .second] [(.int v7), (.ref r0)])) rfl rfl (hb hby d13_110)
      have F168 := F157.same W167
      have F169 := F158.other W167 (Or.inr (slot_ne (Or.inr (hw _ (List.mem_of_getElem? (i := 54) rfl))) (Or.inl (hw _ (List.mem_of_getElem? (i := 80) rfl))) (by decide) (t := .int) (t' := .int) (by decide) (by decide)))
      have F170 := F159.other W167 (Or.inr (slot_ne (Or.inr (hw _ (List.mem_of_getElem? (i := 47) rfl))) (Or.inl (hw _ (List.mem_of_getElem? (i := 80) rfl))) (by decide) (t := .long) (t' := .int) (by decide) (by decide)))
      have F171 := F160.other W167 (Or.inr (slot_ne (Or.inl (hw _ (List.mem_of_getElem? (i := 66) rfl))) (Or.inl (hw _ (List.mem_of_getElem? (i := 80) rfl))) (by decide) (t := .long) (t' := .int) (by decide) (by decide)))
      have F172 := F161.other W167 (Or.inr (slot_ne (Or.inl (hw _ (List.mem_of_getElem? (i := 73) rfl))) (Or.inl (hw _ (List.mem_of_getElem? (i := 80) rfl))) (by decide) (t := .long) (t' := .int) (by decide) (by decide)))
      have F173 := F162.wr W167
      have Z174 : n0 ≤ h167.size := Nat.le_trans Z163 (Keep.of_wr W167).1
      have K175 : Keep h0 h167 [r0] := K164.wr W167 (Or.inl (List.mem_of_getElem? (i := 0) rfl))
      have N176 := Fr.snoc X167 N165 g_r0
      have hgo177 : ∀ t, Steps p.tables e below (T167.setTop (mkF m 114 #[.val (.ref r0), .val (.long w4), .second] [(.long w4)])) t → Steps p.tables e below (T135.setTop (mkF m 87 #[.val (.ref r0), .val (.long w4), .second] [(.int (lcmpW v3 wb))])) t := by
        intro t kt
        show Steps p.tables e below (T135.setTop (mkF m 87 #[.val (.ref r0), .val (.long w4), .second] [(.int (lcmpW v3 wb))])) _
        refine XS.ifNo X135.here hx rfl (hb hby d13_87) rfl ((if0 _ _).trans (flt (own_lc_nlt hc87_4)).1) ?_
        show Steps p.tables e below (T135.setTop (mkF m 90 #[.val (.ref r0), .val (.long w4), .second] [])) _
        refine XS.aloadN X135.here hx rfl (hb hby d13_90) rfl rfl ?_
        show Steps p.tables e below (T135.setTop (mkF m 91 #[.val (.ref r0), .val (.long w4), .second] [(.ref r0)])) _
        refine XS.dup X135.here hx rfl (hb hby d13_91) rfl rfl ?_
        show Steps p.tables e below (T135.setTop (mkF m 92 #[.val (.ref r0), .val (.long w4), .second] [(.ref r0), (.ref r0)])) _
        refine st153 _ ?_
        show Steps p.tables e below (T153.setTop (mkF m 95 #[.val (.ref r0), .val (.long w4), .second] [(.long v3), (.ref r0)])) _
        refine XS.aloadN X153.here hx rfl (hb hby d13_95) rfl rfl ?_
        show Steps p.tables e below (T153.setTop (mkF m 96 #[.val (.ref r0), .val (.long w4), .second] [(.ref r0), (.long v3), (.ref r0)])) _
        refine st154 _ ?_
        show Steps p.tables e below (T154.setTop (mkF m 99 #[.val (.ref r0), .val (.long w4), .second] [(.long wb), (.long v3), (.ref r0)])) _
        refine XS.lrem X154.here hx rfl (hb hby d13_99) rfl hnz99_155 ?_
        rw [own_remJ v3 wb]
        show Steps p.tables e below (T154.setTop (mkF m 100 #[.val (.ref r0), .val (.long w4), .second] [(.long (v3 % wb)), (.ref r0)])) _
        rw [← hv6]
        refine st156 _ ?_
        show Steps p.tables e below (T156.setTop (mkF m 103 #[.val (.ref r0), .val (.long w4), .second] [])) _
        refine XS.aloadN X156.here hx rfl (hb hby d13_103) rfl rfl ?_
        show Steps p.tables e below (T156.setTop (mkF m 104 #[.val (.ref r0), .val (.long w4), .second] [(.ref r0)])) _
        refine XS.dup X156.here hx rfl (hb hby d13_104) rfl rfl ?_
        show Steps p.tables e below (T156.setTop (mkF m 105 #[.val (.ref r0), .val (.long w4), .second] [(.ref r0), (.ref r0)])) _
        refine st166 _ ?_
        show Steps p.tables e below (T166.setTop (mkF m 108 #[.val (.ref r0), .val (.long w4), .second] [(.int wi), (.ref r0)])) _
        refine XS.iconst X166.here hx rfl (hb hby d13_108) ?_
        show Steps p.tables e below (T166.setTop (mkF m 109 #[.val (.ref r0), .val (.long w4), .second] [(.int (1 : Int32)), (.int wi), (.ref r0)])) _
        refine XS.iadd X166.here hx rfl (hb hby d13_109) rfl ?_
        show Steps p.tables e below (T166.setTop (mkF m 110 #[.val (.ref r0), .val (.long w4), .second] [(.int (wi + (1 : Int32))), (.ref r0)])) _
        rw [← hv7]
        refine st167 _ ?_
        show Steps p.tables e below (T167.setTop (mkF m 113 #[.val (.ref r0), .val (.long w4), .second] [])) _
        refine XS.lloadN X167.here hx rfl (hb hby d13_113) rfl ?_
        exact kt
      refine own_go hgo177 ?_
      exact own_retJ X167 hx Bd.returns Bd.notSynchronized (hb hby d13_114) (by decide) (by decide) (by rw [e167]; exact ⟨v1, v6, (by subst hv7 hv6 hv3 hv1; rw [own_r13, if_pos hc46_2, if_neg hc87_4]), N176, K175, F173, (by subst hv7 hv6 hv3 hv1; exact F168), (by subst hv7 hv6 hv3 hv1; exact F169), (by subst hv7 hv6 hv3 hv1; exact F170), F171, F172⟩)
  · obtain ⟨T178, X178, e178, st178⟩ := getF X117 hx hZ hown (host := "") (Or.inl (hw _ (List.mem_of_getElem? (i := 65) rfl))) Via.refl e117 F110 (g := (mkF m 51 #[.val (.ref r0), .val (.long w4), .second] [(.ref r0), (.ref r0)])) rfl rfl (hb hby d13_51)
    obtain ⟨T179, X179, e179, st179⟩ := getF X178 hx hZ hown (host := "") (Or.inl (hw _ (List.mem_of_getElem? (i := 46) rfl))) Via.refl e178 F109 (g := (mkF m 55 #[.val (.ref r0), .val (.long w4), .second] [(.ref r0), (.long v1), (.ref r0)])) rfl rfl (hb hby d13_55)
    obtain ⟨v8, hv8⟩ : ∃ z : Int64, z = (v1 - wb) := ⟨_, rfl⟩
    obtain ⟨T180, h180, X180, e180, W180, st180⟩ := putF X179 hx hZ hown (host := "") (Or.inl (hw _ (List.mem_of_getElem? (i := 65) rfl))) Via.refl e179 F110 F112 (Or.inl (hw _ (List.mem_of_getElem? (i := 66) rfl))) (hw _ (List.mem_of_getElem? (i := 35) rfl)) (ty := .long) (by decide) rfl rfl (g := (mkF m 59 #[.val (.ref r0), .val (.long w4), .second] [(.long v8), (.ref r0)])) rfl rfl (hb hby d13_59)
    have F181 := F107.other W180 (Or.inr (slot_ne (Or.inl (hw _ (List.mem_of_getElem? (i := 80) rfl))) (Or.inl (hw _ (List.mem_of_getElem? (i := 66) rfl))) (by decide) (t := .int) (t' := .long) (by decide) (by decide)))
    have F182 := F108.other W180 (Or.inr (slot_ne (Or.inr (hw _ (List.mem_of_getElem? (i := 54) rfl))) (Or.inl (hw _ (List.mem_of_getElem? (i := 66) rfl))) (by decide) (t := .int) (t' := .long) (by decide) (by decide)))
    have F183 := F109.other W180 (Or.inr (slot_ne (Or.inr (hw _ (List.mem_of_getElem? (i := 47) rfl))) (Or.inl (hw _ (List.mem_of_getElem? (i := 66) rfl))) (by decide) (t := .long) (t' := .long) (by decide) (by decide)))
    have F184 := F110.same W180
    have F185 := F111.other W180 (Or.inr (slot_ne (Or.inl (hw _ (List.mem_of_getElem? (i := 73) rfl))) (Or.inl (hw _ (List.mem_of_getElem? (i := 66) rfl))) (by decide) (t := .long) (t' := .long) (by decide) (by decide)))
    have F186 := F112.wr W180
    have Z187 : n0 ≤ h180.size := Nat.le_trans Z113 (Keep.of_wr W180).1
    have K188 : Keep h0 h180 [r0] := K114.wr W180 (Or.inl (List.mem_of_getElem? (i := 0) rfl))
    have N189 := Fr.snoc X180 N115 g_r0
    obtain ⟨T190, X190, e190, st190⟩ := getF X180 hx hZ hown (host := "") (Or.inl (hw _ (List.mem_of_getElem? (i := 72) rfl))) Via.refl e180 F185 (g := (mkF m 64 #[.val (.ref r0), .val (.long w4), .second] [(.ref r0), (.ref r0)])) rfl rfl (hb hby d13_64)
    obtain ⟨T191, X191, e191, st191⟩ := getF X190 hx hZ hown (host := "") (Or.inl (hw _ (List.mem_of_getElem? (i := 79) rfl))) Via.refl e190 F181 (g := (mkF m 68 #[.val (.ref r0), .val (.long w4), .second] [(.ref r0), (.long w5), (.ref r0)])) rfl rfl (hb hby d13_68)
    obtain ⟨v9, hv9⟩ : ∃ z : Int64, z = (w5 + ((wi + (1 : Int32)).toInt64)) := ⟨_, rfl⟩
    obtain ⟨T192, h192, X192, e192, W192, st192⟩ := putF X191 hx hZ hown (host := "") (Or.inl (hw _ (List.mem_of_getElem? (i := 72) rfl))) Via.refl e191 F185 F186 (Or.inl (hw _ (List.mem_of_getElem? (i := 73) rfl))) (hw _ (List.mem_of_getElem? (i := 35) rfl)) (ty := .long) (by decide) rfl rfl (g := (mkF m 75 #[.val (.ref r0), .val (.long w4), .second] [(.long v9), (.ref r0)])) rfl rfl (hb hby d13_75)
    have F193 := F181.other W192 (Or.inr (slot_ne (Or.inl (hw _ (List.mem_of_getElem? (i := 80) rfl))) (Or.inl (hw _ (List.mem_of_getElem? (i := 73) rfl))) (by decide) (t := .int) (t' := .long) (by decide) (by decide)))
    have F194 := F182.other W192 (Or.inr (slot_ne (Or.inr (hw _ (List.mem_of_getElem? (i := 54) rfl))) (Or.inl (hw _ (List.mem_of_getElem? (i := 73) rfl))) (by decide) (t := .int) (t' := .long) (by decide) (by decide)))
    have F195 := F183.other W192 (Or.inr (slot_ne (Or.inr (hw _ (List.mem_of_getElem? (i := 47) rfl))) (Or.inl (hw _ (List.mem_of_getElem? (i := 73) rfl))) (by decide) (t := .long) (t' := .long) (by decide) (by decide)))
    have F196 := F184.other W192 (Or.inr (slot_ne (Or.inl (hw _ (List.mem_of_getElem? (i := 66) rfl))) (Or.inl (hw _ (List.mem_of_getElem? (i := 73) rfl))) (by decide) (t := .long) (t' := .long) (by decide) (by decide)))
    have F197 := F185.same W192
    have F198 := F186.wr W192
    have Z199 : n0 ≤ h192.size := Nat.le_trans Z187 (Keep.of_wr W192).1
    have K200 : Keep h0 h192 [r0] := K188.wr W192 (Or.inl (List.mem_of_getElem? (i := 0) rfl))
    have N201 := Fr.snoc X192 N189 g_r0
    obtain ⟨T202, X202, e202, st202⟩ := getF X192 hx hZ hown (host := "") (Or.inl (hw _ (List.mem_of_getElem? (i := 72) rfl))) Via.refl e192 F197 (g := (mkF m 79 #[.val (.ref r0), .val (.long w4), .second] [(.ref r0)])) rfl rfl (hb hby d13_79)
    obtain ⟨T203, X203, e203, st203⟩ := getF X202 hx hZ hown (host := "") (Or.inl (hw _ (List.mem_of_getElem? (i := 46) rfl))) Via.refl e202 F195 (g := (mkF m 83 #[.val (.ref r0), .val (.long w4), .second] [(.ref r0), (.long v9)])) rfl rfl (hb hby d13_83)
    have hgo208 : ∀ t, Steps p.tables e below (T203.setTop (mkF m 87 #[.val (.ref r0), .val (.long w4), .second] [(.int (lcmpW v9 wb))])) t → Steps p.tables e below (T117.setTop (mkF m 46 #[.val (.ref r0), .val (.long w4), .second] [(.int (lcmpW v1 wb))])) t := by
      intro t kt
      show Steps p.tables e below (T117.setTop (mkF m 46 #[.val (.ref r0), .val (.long w4), .second] [(.int (lcmpW v1 wb))])) _
      refine XS.ifNo X117.here hx rfl (hb hby d13_46) rfl ((if0 _ _).trans (flt (own_lc_nlt hc46_2)).1) ?_
      show Steps p.tables e below (T117.setTop (mkF m 49 #[.val (.ref r0), .val (.long w4), .second] [])) _
      refine XS.aloadN X117.here hx rfl (hb hby d13_49) rfl rfl ?_
      show Steps p.tables e below (T117.setTop (mkF m 50 #[.val (.ref r0), .val (.long w4), .second] [(.ref r0)])) _
      refine XS.dup X117.here hx rfl (hb hby d13_50) rfl rfl ?_
      show Steps p.tables e below (T117.setTop (mkF m 51 #[.val (.ref r0), .val (.long w4), .second] [(.ref r0), (.ref r0)])) _
      refine st178 _ ?_
      show Steps p.tables e below (T178.setTop (mkF m 54 #[.val (.ref r0), .val (.long w4), .second] [(.long v1), (.ref r0)])) _
      refine XS.aloadN X178.here hx rfl (hb hby d13_54) rfl rfl ?_
      show Steps p.tables e below (T178.setTop (mkF m 55 #[.val (.ref r0), .val (.long w4), .second] [(.ref r0), (.long v1), (.ref r0)])) _
      refine st179 _ ?_
      show Steps p.tables e below (T179.setTop (mkF m 58 #[.val (.ref r0), .val (.long w4), .second] [(.long wb), (.long v1), (.ref r0)])) _
      refine XS.lsub X179.here hx rfl (hb hby d13_58) rfl ?_
      show Steps p.tables e below (T179.setTop (mkF m 59 #[.val (.ref r0), .val (.long w4), .second] [(.long (v1 - wb)), (.ref r0)])) _
      rw [← hv8]
      refine st180 _ ?_
      show Steps p.tables e below (T180.setTop (mkF m 62 #[.val (.ref r0), .val (.long w4), .second] [])) _
      refine XS.aloadN X180.here hx rfl (hb hby d13_62) rfl rfl ?_
      show Steps p.tables e below (T180.setTop (mkF m 63 #[.val (.ref r0), .val (.long w4), .second] [(.ref r0)])) _
      refine XS.dup X180.here hx rfl (hb hby d13_63) rfl rfl ?_
      show Steps p.tables e below (T180.setTop (mkF m 64 #[.val (.ref r0), .val (.long w4), .second] [(.ref r0), (.ref r0)])) _
      refine st190 _ ?_
      show Steps p.tables e below (T190.setTop (mkF m 67 #[.val (.ref r0), .val (.long w4), .second] [(.long w5), (.ref r0)])) _
      refine XS.aloadN X190.here hx rfl (hb hby d13_67) rfl rfl ?_
      show Steps p.tables e below (T190.setTop (mkF m 68 #[.val (.ref r0), .val (.long w4), .second] [(.ref r0), (.long w5), (.ref r0)])) _
      refine st191 _ ?_
      show Steps p.tables e below (T191.setTop (mkF m 71 #[.val (.ref r0), .val (.long w4), .second] [(.int wi), (.long w5), (.ref r0)])) _
      refine XS.iconst X191.here hx rfl (hb hby d13_71) ?_
      show Steps p.tables e below (T191.setTop (mkF m 72 #[.val (.ref r0), .val (.long w4), .second] [(.int (1 : Int32)), (.int wi), (.long w5), (.ref r0)])) _
      refine XS.iadd X191.here hx rfl (hb hby d13_72) rfl ?_
      show Steps p.tables e below (T191.setTop (mkF m 73 #[.val (.ref r0), .val (.long w4), .second] [(.int (wi + (1 : Int32))), (.long w5), (.ref r0)])) _
      refine XS.i2l X191.here hx rfl (hb hby d13_73) rfl ?_
      show Steps p.tables e below (T191.setTop (mkF m 74 #[.val (.ref r0), .val (.long w4), .second] [(.long ((wi + (1 : Int32)).toInt64)), (.long w5), (.ref r0)])) _
      refine XS.ladd X191.here hx rfl (hb hby d13_74) rfl ?_
      show Steps p.tables e below (T191.setTop (mkF m 75 #[.val (.ref r0), .val (.long w4), .second] [(.long (w5 + ((wi + (1 : Int32)).toInt64))), (.ref r0)])) _
      rw [← hv9]
      refine st192 _ ?_
      show Steps p.tables e below (T192.setTop (mkF m 78 #[.val (.ref r0), .val (.long w4), .second] [])) _
      refine XS.aloadN X192.here hx rfl (hb hby d13_78) rfl rfl ?_
      show Steps p.tables e below (T192.setTop (mkF m 79 #[.val (.ref r0), .val (.long w4), .second] [(.ref r0)])) _
      refine st202 _ ?_
      show Steps p.tables e below (T202.setTop (mkF m 82 #[.val (.ref r0), .val (.long w4), .second] [(.long v9)])) _
      refine XS.aloadN X202.here hx rfl (hb hby d13_82) rfl rfl ?_
      show Steps p.tables e below (T202.setTop (mkF m 83 #[.val (.ref r0), .val (.long w4), .second] [(.ref r0), (.long v9)])) _
      refine st203 _ ?_
      show Steps p.tables e below (T203.setTop (mkF m 86 #[.val (.ref r0), .val (.long w4), .second] [(.long wb), (.long v9)])) _
      refine XS.lcmp X203.here hx rfl (hb hby d13_86) rfl ?_
      exact kt
    refine own_go hgo208 ?_
    by_cases hc87_10 : v9 < wb
    · obtain ⟨T209, X209, e209, st209⟩ := getF X203 hx hZ hown (host := "") (Or.inl (hw _ (List.mem_of_getElem? (i := 79) rfl))) Via.refl e203 F193 (g := (mkF m 105 #[.val (.ref r0), .val (.long w4), .second] [(.ref r0), (.ref r0)])) rfl rfl (hb hby d13_105)
      obtain ⟨v11, hv11⟩ : ∃ z : Int32, z = (wi + (1 : Int32)) := ⟨_, rfl⟩
      obtain ⟨T210, h210, X210, e210, W210, st210⟩ := putF X209 hx hZ hown (host := "") (Or.inl (hw _ (List.mem_of_getElem? (i := 79) rfl))) Via.refl e209 F193 F198 (Or.inl (hw _ (List.mem_of_getElem? (i := 80) rfl))) (hw _ (List.mem_of_getElem? (i := 35) rfl)) (ty := .int) (by decide) rfl rfl (g := (mkF m 110 #[.val (.ref r0), .val (.long w4), .second] [(.int v11), (.ref r0)])) rfl rfl (hb hby d13_110)
      have F211 := F193.same W210
      have F212 := F194.other W210 (Or.inr (slot_ne (Or.inr (hw _ (List.mem_of_getElem? (i := 54) rfl))) (Or.inl (hw _ (List.mem_of_getElem? (i := 80) rfl))) (by decide) (t := .int) (t' := .int) (by decide) (by decide)))
      have F213 := F195.other W210 (Or.inr (slot_ne (Or.inr (hw _ (List.mem_of_getElem? (i := 47) rfl))) (Or.inl (hw _ (List.mem_of_getElem? (i := 80) rfl))) (by decide) (t := .long) (t' := .int) (by decide) (by decide)))
      have F214 := F196.other W210 (Or.inr (slot_ne (Or.inl (hw _ (List.mem_of_getElem? (i := 66) rfl))) (Or.inl (hw _ (List.mem_of_getElem? (i := 80) rfl))) (by decide) (t := .long) (t' := .int) (by decide) (by decide)))
      have F215 := F197.other W210 (Or.inr (slot_ne (Or.inl (hw _ (List.mem_of_getElem? (i := 73) rfl))) (Or.inl (hw _ (List.mem_of_getElem? (i := 80) rfl))) (by decide) (t := .long) (t' := .int) (by decide) (by decide)))
      have F216 := F198.wr W210
      have Z217 : n0 ≤ h210.size := Nat.le_trans Z199 (Keep.of_wr W210).1
      have K218 : Keep h0 h210 [r0] := K200.wr W210 (Or.inl (List.mem_of_getElem? (i := 0) rfl))
      have N219 := Fr.snoc X210 N201 g_r0
      have hgo220 : ∀ t, Steps p.tables e below (T210.setTop (mkF m 114 #[.val (.ref r0), .val (.long w4), .second] [(.long w4)])) t → Steps p.tables e below (T203.setTop (mkF m 87 #[.val (.ref r0), .val (.long w4), .second] [(.int (lcmpW v9 wb))])) t := by
        intro t kt
        show Steps p.tables e below (T203.setTop (mkF m 87 #[.val (.ref r0), .val (.long w4), .second] [(.int (lcmpW v9 wb))])) _
        refine XS.ifYes X203.here hx rfl (pc0 := 87) (pc' := 103) rfl (hb hby d13_87) rfl ((if0 _ _).trans (tlt (own_lc_lt hc87_10)).1) (by decide) (by decide) ?_
        show Steps p.tables e below (T203.setTop (mkF m 103 #[.val (.ref r0), .val (.long w4), .second] [])) _
        refine XS.aloadN X203.here hx rfl (hb hby d13_103) rfl rfl ?_
        show Steps p.tables e below (T203.setTop (mkF m 104 #[.val (.ref r0), .val (.long w4), .second] [(.ref r0)])) _
        refine XS.dup X203.here hx rfl (hb hby d13_104) rfl rfl ?_
        show Steps p.tables e below (T203.setTop (mkF m 105 #[.val (.ref r0), .val (.long w4), .second] [(.ref r0), (.ref r0)])) _
        refine st209 _ ?_
        show Steps p.tables e below (T209.setTop (mkF m 108 #[.val (.ref r0), .val (.long w4), .second] [(.int wi), (.ref r0)])) _
        refine XS.iconst X209.here hx rfl (hb hby d13_108) ?_
        show Steps p.tables e below (T209.setTop (mkF m 109 #[.val (.ref r0), .val (.long w4), .second] [(.int (1 : Int32)), (.int wi), (.ref r0)])) _
        refine XS.iadd X209.here hx rfl (hb hby d13_109) rfl ?_
        show Steps p.tables e below (T209.setTop (mkF m 110 #[.val (.ref r0), .val (.long w4), .second] [(.int (wi + (1 : Int32))), (.ref r0)])) _
        rw [← hv11]
        refine st210 _ ?_
        show Steps p.tables e below (T210.setTop (mkF m 113 #[.val (.ref r0), .val (.long w4), .second] [])) _
        refine XS.lloadN X210.here hx rfl (hb hby d13_113) rfl ?_
        exact kt
      refine own_go hgo220 ?_
      exact own_retJ X210 hx Bd.returns Bd.notSynchronized (hb hby d13_114) (by decide) (by decide) (by rw [e210]; exact ⟨v8, v9, (by subst hv11 hv9 hv8 hv1; rw [own_r13, if_neg hc46_2, if_pos hc87_10]), N219, K218, F216, (by subst hv11 hv9 hv8 hv1; exact F211), (by subst hv11 hv9 hv8 hv1; exact F212), (by subst hv11 hv9 hv8 hv1; exact F213), F214, F215⟩)
    · obtain ⟨T221, X221, e221, st221⟩ := getF X203 hx hZ hown (host := "") (Or.inl (hw _ (List.mem_of_getElem? (i := 72) rfl))) Via.refl e203 F197 (g := (mkF m 92 #[.val (.ref r0), .val (.long w4), .second] [(.ref r0), (.ref r0)])) rfl rfl (hb hby d13_92)
      obtain ⟨T222, X222, e222, st222⟩ := getF X221 hx hZ hown (host := "") (Or.inl (hw _ (List.mem_of_getElem? (i := 46) rfl))) Via.refl e221 F195 (g := (mkF m 96 #[.val (.ref r0), .val (.long w4), .second] [(.ref r0), (.long v9), (.ref r0)])) rfl rfl (hb hby d13_96)
      have hnz99_223 : ¬ (wb = (0 : Int64)) := hz3
      obtain ⟨v12, hv12⟩ : ∃ z : Int64, z = (v9 % wb) := ⟨_, rfl⟩
      obtain ⟨T224, h224, X224, e224, W224, st224⟩ := putF X222 hx hZ hown (host := "") (Or.inl (hw _ (List.mem_of_getElem? (i := 72) rfl))) Via.refl e222 F197 F198 (Or.inl (hw _ (List.mem_of_getElem? (i := 73) rfl))) (hw _ (List.mem_of_getElem? (i := 35) rfl)) (ty := .long) (by decide) rfl rfl (g := (mkF m 100 #[.val (.ref r0), .val (.long w4), .second] [(.long v12), (.ref r0)])) rfl rfl (hb hby d13_100)
      have F225 := F193.other W224 (Or.inr (slot_ne (Or.inl (hw _ (List.mem_of_getElem? (i := 80) rfl))) (Or.inl (hw _ (List.mem_of_getElem? (i := 73) rfl))) (by decide) (t := .int) (t' := .long) (by decide) (by decide)))
      have F226 := F194.other W224 (Or.inr (slot_ne (Or.inr (hw _ (List.mem_of_getElem? (i := 54) rfl))) (Or.inl (hw _ (List.mem_of_getElem? (i := 73) rfl))) (by decide) (t := .int) (t' := .long) (by decide) (by decide)))
      have F227 := F195.other W224 (Or.inr (slot_ne (Or.inr (hw _ (List.mem_of_getElem? (i := 47) rfl))) (Or.inl (hw _ (List.mem_of_getElem? (i := 73) rfl))) (by decide) (t := .long) (t' := .long) (by decide) (by decide)))
      have F228 := F196.other W224 (Or.inr (slot_ne (Or.inl (hw _ (List.mem_of_getElem? (i := 66) rfl))) (Or.inl (hw _ (List.mem_of_getElem? (i := 73) rfl))) (by decide) (t := .long) (t' := .long) (by decide) (by decide)))
      have F229 := F197.same W224
      have F230 := F198.wr W224
      have Z231 : n0 ≤ h224.size := Nat.le_trans Z199 (Keep.of_wr W224).1
      have K232 : Keep h0 h224 [r0] := K200.wr W224 (Or.inl (List.mem_of_getElem? (i := 0) rfl))
      have N233 := Fr.snoc X224 N201 g_r0
      obtain ⟨T234, X234, e234, st234⟩ := getF X224 hx hZ hown (host := "") (Or.inl (hw _ (List.mem_of_getElem? (i := 79) rfl))) Via.refl e224 F225 (g := (mkF m 105 #[.val (.ref r0), .val (.long w4), .second] [(.ref r0), (.ref r0)])) rfl rfl (hb hby d13_105)
      obtain ⟨v13, hv13⟩ : ∃ z : Int32, z = (wi + (1 : Int32)) := ⟨_, rfl⟩
      obtain ⟨T235, h235, X235, e235, W235, st235⟩ := putF X234 hx hZ hown (host := "") (Or.inl (hw _ (List.mem_of_getElem? (i := 79) rfl))) Via.refl e234 F225 F230 (Or.inl (hw _ (List.mem_of_getElem? (i := 80) rfl))) (hw _ (List.mem_of_getElem? (i := 35) rfl)) (ty := .int) (by decide) rfl rfl (g := (mkF m 110 #[.val (.ref r0), .val (.long w4), .second] [(.int v13), (.ref r0)])) rfl rfl (hb hby d13_110)
      have F236 := F225.same W235
      have F237 := F226.other W235 (Or.inr (slot_ne (Or.inr (hw _ (List.mem_of_getElem? (i := 54) rfl))) (Or.inl (hw _ (List.mem_of_getElem? (i := 80) rfl))) (by decide) (t := .int) (t' := .int) (by decide) (by decide)))
      have F238 := F227.other W235 (Or.inr (slot_ne (Or.inr (hw _ (List.mem_of_getElem? (i := 47) rfl))) (Or.inl (hw _ (List.mem_of_getElem? (i := 80) rfl))) (by decide) (t := .long) (t' := .int) (by decide) (by decide)))
      have F239 := F228.other W235 (Or.inr (slot_ne (Or.inl (hw _ (List.mem_of_getElem? (i := 66) rfl))) (Or.inl (hw _ (List.mem_of_getElem? (i := 80) rfl))) (by decide) (t := .long) (t' := .int) (by decide) (by decide)))
      have F240 := F229.other W235 (Or.inr (slot_ne (Or.inl (hw _ (List.mem_of_getElem? (i := 73) rfl))) (Or.inl (hw _ (List.mem_of_getElem? (i := 80) rfl))) (by decide) (t := .long) (t' := .int) (by decide) (by decide)))
      have F241 := F230.wr W235
      have Z242 : n0 ≤ h235.size := Nat.le_trans Z231 (Keep.of_wr W235).1
      have K243 : Keep h0 h235 [r0] := K232.wr W235 (Or.inl (List.mem_of_getElem? (i := 0) rfl))
      have N244 := Fr.snoc X235 N233 g_r0
      have hgo245 : ∀ t, Steps p.tables e below (T235.setTop (mkF m 114 #[.val (.ref r0), .val (.long w4), .second] [(.long w4)])) t → Steps p.tables e below (T203.setTop (mkF m 87 #[.val (.ref r0), .val (.long w4), .second] [(.int (lcmpW v9 wb))])) t := by
        intro t kt
        show Steps p.tables e below (T203.setTop (mkF m 87 #[.val (.ref r0), .val (.long w4), .second] [(.int (lcmpW v9 wb))])) _
        refine XS.ifNo X203.here hx rfl (hb hby d13_87) rfl ((if0 _ _).trans (flt (own_lc_nlt hc87_10)).1) ?_
        show Steps p.tables e below (T203.setTop (mkF m 90 #[.val (.ref r0), .val (.long w4), .second] [])) _
        refine XS.aloadN X203.here hx rfl (hb hby d13_90) rfl rfl ?_
        show Steps p.tables e below (T203.setTop (mkF m 91 #[.val (.ref r0), .val (.long w4), .second] [(.ref r0)])) _
        refine XS.dup X203.here hx rfl (hb hby d13_91) rfl rfl ?_
        show Steps p.tables e below (T203.setTop (mkF m 92 #[.val (.ref r0), .val (.long w4), .second] [(.ref r0), (.ref r0)])) _
        refine st221 _ ?_
        show Steps p.tables e below (T221.setTop (mkF m 95 #[.val (.ref r0), .val (.long w4), .second] [(.long v9), (.ref r0)])) _
        refine XS.aloadN X221.here hx rfl (hb hby d13_95) rfl rfl ?_
        show Steps p.tables e below (T221.setTop (mkF m 96 #[.val (.ref r0), .val (.long w4), .second] [(.ref r0), (.long v9), (.ref r0)])) _
        refine st222 _ ?_
        show Steps p.tables e below (T222.setTop (mkF m 99 #[.val (.ref r0), .val (.long w4), .second] [(.long wb), (.long v9), (.ref r0)])) _
        refine XS.lrem X222.here hx rfl (hb hby d13_99) rfl hnz99_223 ?_
        rw [own_remJ v9 wb]
        show Steps p.tables e below (T222.setTop (mkF m 100 #[.val (.ref r0), .val (.long w4), .second] [(.long (v9 % wb)), (.ref r0)])) _
        rw [← hv12]
        refine st224 _ ?_
        show Steps p.tables e below (T224.setTop (mkF m 103 #[.val (.ref r0), .val (.long w4), .second] [])) _
        refine XS.aloadN X224.here hx rfl (hb hby d13_103) rfl rfl ?_
        show Steps p.tables e below (T224.setTop (mkF m 104 #[.val (.ref r0), .val (.long w4), .second] [(.ref r0)])) _
        refine XS.dup X224.here hx rfl (hb hby d13_104) rfl rfl ?_
        show Steps p.tables e below (T224.setTop (mkF m 105 #[.val (.ref r0), .val (.long w4), .second] [(.ref r0), (.ref r0)])) _
        refine st234 _ ?_
        show Steps p.tables e below (T234.setTop (mkF m 108 #[.val (.ref r0), .val (.long w4), .second] [(.int wi), (.ref r0)])) _
        refine XS.iconst X234.here hx rfl (hb hby d13_108) ?_
        show Steps p.tables e below (T234.setTop (mkF m 109 #[.val (.ref r0), .val (.long w4), .second] [(.int (1 : Int32)), (.int wi), (.ref r0)])) _
        refine XS.iadd X234.here hx rfl (hb hby d13_109) rfl ?_
        show Steps p.tables e below (T234.setTop (mkF m 110 #[.val (.ref r0), .val (.long w4), .second] [(.int (wi + (1 : Int32))), (.ref r0)])) _
        rw [← hv13]
        refine st235 _ ?_
        show Steps p.tables e below (T235.setTop (mkF m 113 #[.val (.ref r0), .val (.long w4), .second] [])) _
        refine XS.lloadN X235.here hx rfl (hb hby d13_113) rfl ?_
        exact kt
      refine own_go hgo245 ?_
      exact own_retJ X235 hx Bd.returns Bd.notSynchronized (hb hby d13_114) (by decide) (by decide) (by rw [e235]; exact ⟨v8, v12, (by subst hv13 hv12 hv9 hv8 hv1; rw [own_r13, if_neg hc46_2, if_neg hc87_10]), N244, K243, F241, (by subst hv13 hv12 hv9 hv8 hv1; exact F236), (by subst hv13 hv12 hv9 hv8 hv1; exact F237), (by subst hv13 hv12 hv9 hv8 hv1; exact F238), F239, F240⟩)
theorem own_ti {x : Int32} (h : x.toBitVec.toNat < 2147483648) : x.toInt = (x.toBitVec.toNat : Int) := by
  show x.toBitVec.toInt = _
  rw [BitVec.toInt_eq_toNat_cond, if_pos (by omega)]
theorem own_tn {x : Int32} (h : 0 ≤ x.toInt) : x.toInt = (x.toBitVec.toNat : Int) ∧ x.toBitVec.toNat < 2147483648 := by
  have e : x.toInt = x.toBitVec.toInt := rfl
  have c := BitVec.toInt_eq_toNat_cond x.toBitVec
  have l := x.toBitVec.isLt
  rw [e] at h ⊢
  rw [c] at h ⊢
  split at h
  · rename_i q
    rw [if_pos q]; omega
  · omega
theorem own_andn (x y : Int32) : (x &&& y).toBitVec.toNat = x.toBitVec.toNat &&& y.toBitVec.toNat := by rw [Int32.toBitVec_and, BitVec.toNat_and]
theorem own_orn (x y : Int32) : (x ||| y).toBitVec.toNat = x.toBitVec.toNat ||| y.toBitVec.toNat := by rw [Int32.toBitVec_or, BitVec.toNat_or]
theorem own_shln {x k : Int32} {n : Nat} (hk : (k.toBitVec.smod 32).toNat = n) (h : x.toBitVec.toNat * 2 ^ n < 2 ^ 32) : (x <<< k).toBitVec.toNat = x.toBitVec.toNat * 2 ^ n := by
  rw [Int32.toBitVec_shiftLeft, BitVec.shiftLeft_eq', BitVec.toNat_shiftLeft, hk, Nat.shiftLeft_eq, Nat.mod_eq_of_lt h]
theorem own_mask {x m : Int32} {k : Nat} (hm : m.toBitVec.toNat = 2 ^ k - 1) : (x &&& m).toBitVec.toNat = x.toBitVec.toNat % 2 ^ k := by
  rw [own_andn, hm, Nat.and_two_pow_sub_one_eq_mod]
theorem own_oradd {a b k : Nat} (hb : b < 2 ^ k) : (a * 2 ^ k) ||| b = a * 2 ^ k + b := by
  rw [Nat.mul_comm, ← Nat.two_pow_add_eq_or_of_lt hb]
theorem own_add {a b : Int32} (h : -2147483648 ≤ a.toInt + b.toInt ∧ a.toInt + b.toInt < 2147483648) : (a + b).toInt = a.toInt + b.toInt := by
  rw [Int32.toInt_add]; exact Int.bmod_eq_of_le (by omega) (by omega)
theorem own_sub {a b : Int32} (h : -2147483648 ≤ a.toInt - b.toInt ∧ a.toInt - b.toInt < 2147483648) : (a - b).toInt = a.toInt - b.toInt := by
  rw [Int32.toInt_sub]; exact Int.bmod_eq_of_le (by omega) (by omega)
theorem own_max1 {a b : Int64} (h : b = own_r1 1 a) : ¬ (b < 1) := by
  rw [h, own_r1]
  split
  · rename_i q; exact Int64.lt_asymm q
  · exact fun q => Int64.lt_irrefl q
theorem own_nz {a b : Int64} (h : b = own_r1 1 a) : ¬ (b = 0) := fun q => own_max1 h (by rw [q]; decide)
theorem own_ltne {a b : Int32} (h : a < b) : ¬ (a = b) := fun q => Int32.lt_irrefl (q ▸ h)
theorem own_hsh {x y v4 v5 v6 v7 : Int32} {c : Prop} [Decidable c] (h4 : v4 = (1 : Int32) + (y &&& (3 : Int32))) (h6 : v6 = own_r14 1 v5) (h7 : v7 = if c then v4 else v6) : ¬ (v7 < 1) := by
  rw [h7]
  split
  · have e := own_mask (x := y) (m := 3) (k := 2) rfl
    have l : (y &&& (3 : Int32)).toBitVec.toNat < 4 := by rw [e]; omega
    have t := own_ti (x := y &&& (3 : Int32)) (by omega)
    rw [h4, Int32.lt_iff_toInt_lt, own_add (by rw [show (1 : Int32).toInt = 1 from rfl]; omega), show (1 : Int32).toInt = 1 from rfl]
    omega
  · rw [h6, own_r14]
    split
    · rename_i q; exact Int32.lt_asymm q
    · exact fun q => Int32.lt_irrefl q

theorem pd9 : parseMethodDescriptor "(II)I" = some ⟨[.int, .int], some .int⟩ := by decide +kernel
theorem pd10 : parseMethodDescriptor "(JJ)V" = some ⟨[.long, .long], none⟩ := by decide +kernel
theorem pd11 : parseMethodDescriptor "(JI)V" = some ⟨[.long, .int], none⟩ := by decide +kernel
theorem pd12 : parseMethodDescriptor "(Lcom/example/upper_falls/upperfalls/KeyHash;Lcom/example/upper_falls/upperfalls/FilterSize;)V" = some ⟨[(.object "com/example/upper_falls/upperfalls/KeyHash"), (.object "com/example/upper_falls/upperfalls/FilterSize")], none⟩ := by decide +kernel
theorem pd13 : parseMethodDescriptor "()Z" = some ⟨[], some .boolean⟩ := by decide +kernel
theorem ef_0 (m : MethodId) (q0 : Int64) (q1 : Int64) (q2 : Int64) (p3 : Int32) : entryFrame m #[(.long q0), (.long q1), (.long q2), (.int p3)] maxLocals = mkF m 0 #[.val (.long q0), .second, .val (.long q1), .second, .val (.long q2), .second, .val (.int p3), .unset, .unset, .unset, .unset, .unset, .unset, .unset] [] := by (first | (simp [entryFrame, mkF, argsToLocals, Value.category, maxLocals]; done) | rfl)
set_option maxRecDepth 65536 in
theorem own_leaf0 {q0 q1 q2 v1 v2 : Int64} {p3 v4 v5 v6 v7 v9 v11 v15 v17 v18 v22 v24 v25 v29 v31 v32 v36 v38 v39 : Int32} (hv1 : v1 = (q2 &&& (4611686018427387903 : Int64))) (hv2 : v2 = (own_r1 (1 : Int64) v1)) (hv4 : v4 = ((1 : Int32) + (((p3.toUInt32 >>> ((1 : Int32) &&& 31).toUInt32).toInt32) &&& (3 : Int32)))) (hv5 : v5 = ((p3.toUInt32 >>> ((1 : Int32) &&& 31).toUInt32).toInt32)) (hv6 : v6 = (own_r14 (1 : Int32) v5)) (hv7 : v7 = (if (p3 &&& (1 : Int32)) = (0 : Int32) then v4 else v6)) (hv9 : v9 = (if (0 : Int32) < v7 then (1 : Int32) else (0 : Int32))) (hv11 : v11 = (if (own_r12 (0 : Int32) v7) = v9 then (1 : Int32) else (0 : Int32))) (hv15 : v15 = (if (1 : Int32) < v7 then (1 : Int32) else (0 : Int32))) (hv17 : v17 = (if (own_r12 (1 : Int32) v7) = v15 then (1 : Int32) else (0 : Int32))) (hv18 : v18 = (if v11 = (0 : Int32) then (0 : Int32) else v17)) (hv22 : v22 = (if (2 : Int32) < v7 then (1 : Int32) else (0 : Int32))) (hv24 : v24 = (if (own_r12 (2 : Int32) v7) = v22 then (1 : Int32) else (0 : Int32))) (hv25 : v25 = (if v18 = (0 : Int32) then (0 : Int32) else v24)) (hv29 : v29 = (if (3 : Int32) < v7 then (1 : Int32) else (0 : Int32))) (hv31 : v31 = (if (own_r12 (3 : Int32) v7) = v29 then (1 : Int32) else (0 : Int32))) (hv32 : v32 = (if v25 = (0 : Int32) then (0 : Int32) else v31)) (hv36 : v36 = (if (4 : Int32) < v7 then (1 : Int32) else (0 : Int32))) (hv38 : v38 = (if (own_r12 (4 : Int32) v7) = v36 then (1 : Int32) else (0 : Int32))) (hv39 : v39 = (if v32 = (0 : Int32) then (0 : Int32) else v38)) (hc116_12 : (0 : Int32) < v7) (hc159_19 : (1 : Int32) < v7) (hc202_26 : (2 : Int32) < v7) (hc245_33 : (3 : Int32) < v7) : v39 = 1 := by simp_all [own_r12]
set_option maxRecDepth 65536 in
theorem own_leaf1 {q0 q1 q2 v1 v2 : Int64} {p3 v4 v5 v6 v7 v9 v11 v15 v17 v18 v22 v24 v25 v29 v31 v32 v42 v43 : Int32} (hv1 : v1 = (q2 &&& (4611686018427387903 : Int64))) (hv2 : v2 = (own_r1 (1 : Int64) v1)) (hv4 : v4 = ((1 : Int32) + (((p3.toUInt32 >>> ((1 : Int32) &&& 31).toUInt32).toInt32) &&& (3 : Int32)))) (hv5 : v5 = ((p3.toUInt32 >>> ((1 : Int32) &&& 31).toUInt32).toInt32)) (hv6 : v6 = (own_r14 (1 : Int32) v5)) (hv7 : v7 = (if (p3 &&& (1 : Int32)) = (0 : Int32) then v4 else v6)) (hv9 : v9 = (if (0 : Int32) < v7 then (1 : Int32) else (0 : Int32))) (hv11 : v11 = (if (own_r12 (0 : Int32) v7) = v9 then (1 : Int32) else (0 : Int32))) (hv15 : v15 = (if (1 : Int32) < v7 then (1 : Int32) else (0 : Int32))) (hv17 : v17 = (if (own_r12 (1 : Int32) v7) = v15 then (1 : Int32) else (0 : Int32))) (hv18 : v18 = (if v11 = (0 : Int32) then (0 : Int32) else v17)) (hv22 : v22 = (if (2 : Int32) < v7 then (1 : Int32) else (0 : Int32))) (hv24 : v24 = (if (own_r12 (2 : Int32) v7) = v22 then (1 : Int32) else (0 : Int32))) (hv25 : v25 = (if v18 = (0 : Int32) then (0 : Int32) else v24)) (hv29 : v29 = (if (3 : Int32) < v7 then (1 : Int32) else (0 : Int32))) (hv31 : v31 = (if (own_r12 (3 : Int32) v7) = v29 then (1 : Int32) else (0 : Int32))) (hv32 : v32 = (if v25 = (0 : Int32) then (0 : Int32) else v31)) (hv42 : v42 = (if (own_r12 (3 : Int32) v7) = (0 : Int32) then (1 : Int32) else (0 : Int32))) (hv43 : v43 = (if v32 = (0 : Int32) then (0 : Int32) else v42)) (hc116_12 : (0 : Int32) < v7) (hc159_19 : (1 : Int32) < v7) (hc202_26 : (2 : Int32) < v7) (hc245_33 : ¬ ((3 : Int32) < v7)) : v43 = 1 := by simp_all [own_r12]
set_option maxRecDepth 65536 in
theorem own_leaf2 {q0 q1 q2 v1 v2 : Int64} {p3 v4 v5 v6 v7 v9 v11 v15 v17 v18 v22 v24 v25 v46 v47 v50 : Int32} (hv1 : v1 = (q2 &&& (4611686018427387903 : Int64))) (hv2 : v2 = (own_r1 (1 : Int64) v1)) (hv4 : v4 = ((1 : Int32) + (((p3.toUInt32 >>> ((1 : Int32) &&& 31).toUInt32).toInt32) &&& (3 : Int32)))) (hv5 : v5 = ((p3.toUInt32 >>> ((1 : Int32) &&& 31).toUInt32).toInt32)) (hv6 : v6 = (own_r14 (1 : Int32) v5)) (hv7 : v7 = (if (p3 &&& (1 : Int32)) = (0 : Int32) then v4 else v6)) (hv9 : v9 = (if (0 : Int32) < v7 then (1 : Int32) else (0 : Int32))) (hv11 : v11 = (if (own_r12 (0 : Int32) v7) = v9 then (1 : Int32) else (0 : Int32))) (hv15 : v15 = (if (1 : Int32) < v7 then (1 : Int32) else (0 : Int32))) (hv17 : v17 = (if (own_r12 (1 : Int32) v7) = v15 then (1 : Int32) else (0 : Int32))) (hv18 : v18 = (if v11 = (0 : Int32) then (0 : Int32) else v17)) (hv22 : v22 = (if (2 : Int32) < v7 then (1 : Int32) else (0 : Int32))) (hv24 : v24 = (if (own_r12 (2 : Int32) v7) = v22 then (1 : Int32) else (0 : Int32))) (hv25 : v25 = (if v18 = (0 : Int32) then (0 : Int32) else v24)) (hv46 : v46 = (if (own_r12 (2 : Int32) v7) = (0 : Int32) then (1 : Int32) else (0 : Int32))) (hv47 : v47 = (if v25 = (0 : Int32) then (0 : Int32) else v46)) (hv50 : v50 = (if v47 = (0 : Int32) then (0 : Int32) else v46)) (hc116_12 : (0 : Int32) < v7) (hc159_19 : (1 : Int32) < v7) (hc202_26 : ¬ ((2 : Int32) < v7)) : v50 = 1 := by simp_all [own_r12]
set_option maxRecDepth 65536 in
theorem own_leaf3 {q0 q1 q2 v1 v2 : Int64} {p3 v4 v5 v6 v7 v9 v11 v15 v17 v18 v53 v54 v57 v60 : Int32} (hv1 : v1 = (q2 &&& (4611686018427387903 : Int64))) (hv2 : v2 = (own_r1 (1 : Int64) v1)) (hv4 : v4 = ((1 : Int32) + (((p3.toUInt32 >>> ((1 : Int32) &&& 31).toUInt32).toInt32) &&& (3 : Int32)))) (hv5 : v5 = ((p3.toUInt32 >>> ((1 : Int32) &&& 31).toUInt32).toInt32)) (hv6 : v6 = (own_r14 (1 : Int32) v5)) (hv7 : v7 = (if (p3 &&& (1 : Int32)) = (0 : Int32) then v4 else v6)) (hv9 : v9 = (if (0 : Int32) < v7 then (1 : Int32) else (0 : Int32))) (hv11 : v11 = (if (own_r12 (0 : Int32) v7) = v9 then (1 : Int32) else (0 : Int32))) (hv15 : v15 = (if (1 : Int32) < v7 then (1 : Int32) else (0 : Int32))) (hv17 : v17 = (if (own_r12 (1 : Int32) v7) = v15 then (1 : Int32) else (0 : Int32))) (hv18 : v18 = (if v11 = (0 : Int32) then (0 : Int32) else v17)) (hv53 : v53 = (if (own_r12 (1 : Int32) v7) = (0 : Int32) then (1 : Int32) else (0 : Int32))) (hv54 : v54 = (if v18 = (0 : Int32) then (0 : Int32) else v53)) (hv57 : v57 = (if v54 = (0 : Int32) then (0 : Int32) else v53)) (hv60 : v60 = (if v57 = (0 : Int32) then (0 : Int32) else v53)) (hc116_12 : (0 : Int32) < v7) (hc159_19 : ¬ ((1 : Int32) < v7)) : v60 = 1 := by simp_all [own_r12]
set_option maxRecDepth 65536 in
theorem own_leaf4 {q0 q1 q2 v1 v2 : Int64} {p3 v4 v5 v6 v7 v9 v11 v63 v64 v67 v70 v73 : Int32} (hv1 : v1 = (q2 &&& (4611686018427387903 : Int64))) (hv2 : v2 = (own_r1 (1 : Int64) v1)) (hv4 : v4 = ((1 : Int32) + (((p3.toUInt32 >>> ((1 : Int32) &&& 31).toUInt32).toInt32) &&& (3 : Int32)))) (hv5 : v5 = ((p3.toUInt32 >>> ((1 : Int32) &&& 31).toUInt32).toInt32)) (hv6 : v6 = (own_r14 (1 : Int32) v5)) (hv7 : v7 = (if (p3 &&& (1 : Int32)) = (0 : Int32) then v4 else v6)) (hv9 : v9 = (if (0 : Int32) < v7 then (1 : Int32) else (0 : Int32))) (hv11 : v11 = (if (own_r12 (0 : Int32) v7) = v9 then (1 : Int32) else (0 : Int32))) (hv63 : v63 = (if (own_r12 (0 : Int32) v7) = (0 : Int32) then (1 : Int32) else (0 : Int32))) (hv64 : v64 = (if v11 = (0 : Int32) then (0 : Int32) else v63)) (hv67 : v67 = (if v64 = (0 : Int32) then (0 : Int32) else v63)) (hv70 : v70 = (if v67 = (0 : Int32) then (0 : Int32) else v63)) (hv73 : v73 = (if v70 = (0 : Int32) then (0 : Int32) else v63)) (hc116_12 : ¬ ((0 : Int32) < v7)) : v73 = 1 := by simp_all [own_r12]
theorem pn14 : plainName "com/example/upper_falls/upperfalls/KeyPositionsHasNextPinLaw" = true := by first | (simp [plainName, overriddenIn]; done) | decide +kernel
def Q0 (Z : State) (q0 : Int64) (q1 : Int64) (q2 : Int64) (p3 : Int32) (h0 : Heap) (n0 : Nat) (v : Option Value) (h : Heap) (L : List Loc) : Prop := v = some (.int 1) ∧ Fr n0 L
set_option maxRecDepth 65536 in
set_option maxHeartbeats 40000000 in
theorem rm0 (l : Launch) (Z : State) (a0 : Array Value) (hw : ∀ d ∈ tables_1, d.before a0 Z = true) (ws : List Jvm.Cond) (q0 : Int64) (q1 : Int64) (q2 : Int64) (p3 : Int32) (h0 : Heap) (n0 : Nat) (Z0 : n0 ≤ h0.size) :
    MetFree l x (head1 (Jvm.Cond.code x code maxLocals ret :: ws) room_1) (fun a U => a = #[(.long q0), (.long q1), (.long q2), (.int p3)] ∧ Z.Warmed39 U.vm ∧ U.heap = h0) (fun _ _ _ _ _ => True) (fun _ U o U' => ∃ v L, o = .returned v ∧ Q0 Z q0 q1 q2 p3 h0 n0 v U'.heap L ∧ FrameEnd U o U' L room_1.cells room_1.slots) := by
  refine MetFree.of_bodySF (plainFor_of_name pn14) hisR ?_
  intro p e s m args below meth c s₁ Bd hml0 hP hK
  obtain ⟨rfl, hZ, hh⟩ := hP
  have hx := Bd.exec
  have hby := Bd.bytes
  have hml : c.maxLocals = 14 := hml0
  have hown : s.vm.findClass "com/example/upper_falls/upperfalls/KeyPositionsHasNextPinLaw" = some m.cls := findClass_of_methodNamed Bd.named
  have hnm := (name_of_methodNamed Bd.named Bd.method).1
  have X0 : Stand p l e room_1 s m #[(.long q0), (.long q1), (.long q2), (.int p3)] below meth c s₁ [] 0 0 := Stand.of_body Bd
  have e0 : s₁.heap = h0 := by rw [← hh, Bd.state]; rfl
  have N0 := Fr.nil n0
  have K0 : Keep h0 h0 [] := Keep.refl h0 _
  show own_Go p e below s (Q0 Z q0 q1 q2 p3 h0 n0) room_1.cells room_1.slots (s₁.setTop (entryFrame m #[(.long q0), (.long q1), (.long q2), (.int p3)] maxLocals))
  refine own_go (fun t k => castTop (ef_0 m q0 q1 q2 p3) k) ?_
  obtain ⟨v1, hv1⟩ : ∃ z : Int64, z = (q2 &&& (4611686018427387903 : Int64)) := ⟨_, rfl⟩
  obtain ⟨_, _, ⟨T101, L101, k101, n101⟩, -, X101, ⟨Lc101, hQ101, l101, y101, z101⟩, st101⟩ := Jvm.LawKit.callS X0 hx (y := (⟨"java/lang/Math", "max", "(JJ)J"⟩ : MethodName)) hown (mvT hZ (hw _ (List.mem_of_getElem? (i := 1) rfl))) (mvT hZ (hw _ (List.mem_of_getElem? (i := 2) rfl))) (mvT hZ (hw _ (List.mem_of_getElem? (i := 3) rfl))) (mvT hZ (hw _ (List.mem_of_getElem? (i := 4) rfl))) (by decide) (backOf (W := 0) (rm1 l Z a0 hw [] (1 : Int64) v1 h0 n0 Z0 ) hZ (hw _ (List.mem_of_getElem? (i := 4) rfl)) (hw _ (List.mem_of_getElem? (i := 3) rfl)) (by decide) (by decide)) (g := (mkF m 7 #[.val (.long q0), .second, .val (.long q1), .second, .val (.long q2), .second, .val (.int p3), .unset, .unset, .unset, .unset, .unset, .unset, .unset] [(.long v1), (.long (1 : Int64))])) rfl (by rw [hml]; rfl) (argsL := [(.long (1 : Int64)), (.long v1)]) (rest := []) (lenOf pd7 rfl) rfl (by show 2 * 0 + _ ≤ _; exact Nat.le_of_eq rfl) (hb hby at_7) (fun _ _ => ⟨rfl, e0, (by decide : 0 + 0 ≤ _), (by decide : 0 + 0 ≤ _)⟩)
  dsimp only [Pt.U, Pt.locs, Pt.cells, Pt.slots] at X101 l101 y101 z101 st101 hQ101
  subst l101 y101 z101
  obtain ⟨rfl, N101q, e101⟩ := hQ101
  have N101 := Fr.app N0 N101q
  obtain ⟨v2, hv2⟩ : ∃ z : Int64, z = (own_r1 (1 : Int64) v1) := ⟨_, rfl⟩
  obtain ⟨v4, hv4⟩ : ∃ z : Int32, z = ((1 : Int32) + (((p3.toUInt32 >>> ((1 : Int32) &&& 31).toUInt32).toInt32) &&& (3 : Int32))) := ⟨_, rfl⟩
  obtain ⟨v5, hv5⟩ : ∃ z : Int32, z = ((p3.toUInt32 >>> ((1 : Int32) &&& 31).toUInt32).toInt32) := ⟨_, rfl⟩
  obtain ⟨v6, hv6⟩ : ∃ z : Int32, z = (own_r14 (1 : Int32) v5) := ⟨_, rfl⟩
  obtain ⟨v7, hv7⟩ : ∃ z : Int32, z = (if (p3 &&& (1 : Int32)) = (0 : Int32) then v4 else v6) := ⟨_, rfl⟩
  obtain ⟨T105, lc105, X105, N105, e105, st105⟩ := own_mrg (n0 := n0) (h := h0) (g := (mkF m 16 #[.val (.long q0), .second, .val (.long q1), .second, .val (.long q2), .second, .val (.int p3), .val (.long v2), .second, .unset, .unset, .unset, .unset, .unset] [(.int (p3 &&& (1 : Int32)))])) (g' := (mkF m 42 #[.val (.long q0), .second, .val (.long q1), .second, .val (.long q2), .second, .val (.int p3), .val (.long v2), .second, .val (.int v7), .unset, .unset, .unset, .unset] [])) X101 (by
    by_cases hc16_3 : (p3 &&& (1 : Int32)) = (0 : Int32)
    · have hgo102 : ∀ t, Steps p.tables e below (T101.setTop (mkF m 42 #[.val (.long q0), .second, .val (.long q1), .second, .val (.long q2), .second, .val (.int p3), .val (.long v2), .second, .val (.int v4), .unset, .unset, .unset, .unset] [])) t → Steps p.tables e below (T101.setTop (mkF m 16 #[.val (.long q0), .second, .val (.long q1), .second, .val (.long q2), .second, .val (.int p3), .val (.long v2), .second, .unset, .unset, .unset, .unset, .unset] [(.int (p3 &&& (1 : Int32)))])) t := by
        intro t kt
        show Steps p.tables e below (T101.setTop (mkF m 16 #[.val (.long q0), .second, .val (.long q1), .second, .val (.long q2), .second, .val (.int p3), .val (.long v2), .second, .unset, .unset, .unset, .unset, .unset] [(.int (p3 &&& (1 : Int32)))])) _
        refine XS.ifNo X101.here hx rfl (hb hby at_16) rfl ((if0 _ _).trans (teq hc16_3).2) ?_
        show Steps p.tables e below (T101.setTop (mkF m 19 #[.val (.long q0), .second, .val (.long q1), .second, .val (.long q2), .second, .val (.int p3), .val (.long v2), .second, .unset, .unset, .unset, .unset, .unset] [])) _
        refine XS.iconst X101.here hx rfl (hb hby at_19) ?_
        show Steps p.tables e below (T101.setTop (mkF m 20 #[.val (.long q0), .second, .val (.long q1), .second, .val (.long q2), .second, .val (.int p3), .val (.long v2), .second, .unset, .unset, .unset, .unset, .unset] [(.int (1 : Int32))])) _
        refine XS.iload X101.here hx rfl (hb hby at_20) rfl ?_
        show Steps p.tables e below (T101.setTop (mkF m 22 #[.val (.long q0), .second, .val (.long q1), .second, .val (.long q2), .second, .val (.int p3), .val (.long v2), .second, .unset, .unset, .unset, .unset, .unset] [(.int p3), (.int (1 : Int32))])) _
        refine XS.iconst X101.here hx rfl (hb hby at_22) ?_
        show Steps p.tables e below (T101.setTop (mkF m 23 #[.val (.long q0), .second, .val (.long q1), .second, .val (.long q2), .second, .val (.int p3), .val (.long v2), .second, .unset, .unset, .unset, .unset, .unset] [(.int (1 : Int32)), (.int p3), (.int (1 : Int32))])) _
        refine XS.iushr X101.here hx rfl (hb hby at_23) rfl ?_
        show Steps p.tables e below (T101.setTop (mkF m 24 #[.val (.long q0), .second, .val (.long q1), .second, .val (.long q2), .second, .val (.int p3), .val (.long v2), .second, .unset, .unset, .unset, .unset, .unset] [(.int ((p3.toUInt32 >>> ((1 : Int32) &&& 31).toUInt32).toInt32)), (.int (1 : Int32))])) _
        refine XS.iconst X101.here hx rfl (hb hby at_24) ?_
        show Steps p.tables e below (T101.setTop (mkF m 25 #[.val (.long q0), .second, .val (.long q1), .second, .val (.long q2), .second, .val (.int p3), .val (.long v2), .second, .unset, .unset, .unset, .unset, .unset] [(.int (3 : Int32)), (.int ((p3.toUInt32 >>> ((1 : Int32) &&& 31).toUInt32).toInt32)), (.int (1 : Int32))])) _
        refine XS.iand X101.here hx rfl (hb hby at_25) rfl ?_
        show Steps p.tables e below (T101.setTop (mkF m 26 #[.val (.long q0), .second, .val (.long q1), .second, .val (.long q2), .second, .val (.int p3), .val (.long v2), .second, .unset, .unset, .unset, .unset, .unset] [(.int (((p3.toUInt32 >>> ((1 : Int32) &&& 31).toUInt32).toInt32) &&& (3 : Int32))), (.int (1 : Int32))])) _
        refine XS.iadd X101.here hx rfl (hb hby at_26) rfl ?_
        show Steps p.tables e below (T101.setTop (mkF m 27 #[.val (.long q0), .second, .val (.long q1), .second, .val (.long q2), .second, .val (.int p3), .val (.long v2), .second, .unset, .unset, .unset, .unset, .unset] [(.int ((1 : Int32) + (((p3.toUInt32 >>> ((1 : Int32) &&& 31).toUInt32).toInt32) &&& (3 : Int32))))])) _
        rw [← hv4]
        show Steps p.tables e below (T101.setTop (mkF m 27 #[.val (.long q0), .second, .val (.long q1), .second, .val (.long q2), .second, .val (.int p3), .val (.long v2), .second, .unset, .unset, .unset, .unset, .unset] [(.int v4)])) _
        refine XS.istore X101.here hx rfl (hb hby at_27) rfl (l' := #[.val (.long q0), .second, .val (.long q1), .second, .val (.long q2), .second, .val (.int p3), .val (.long v2), .second, .val (.int v4), .unset, .unset, .unset, .unset]) rfl ?_
        show Steps p.tables e below (T101.setTop (mkF m 29 #[.val (.long q0), .second, .val (.long q1), .second, .val (.long q2), .second, .val (.int p3), .val (.long v2), .second, .val (.int v4), .unset, .unset, .unset, .unset] [])) _
        refine XS.goto X101.here hx rfl (pc0 := 29) (pc' := 42) rfl (hb hby at_29) (by decide) (by decide) ?_
        exact kt
      refine own_arm hgo102 ?_
      exact own_armEnd X101 N101 e101 (by rw [hv7.trans (if_pos hc16_3)])
    · obtain ⟨_, _, ⟨T103, L103, k103, n103⟩, -, X103, ⟨Lc103, hQ103, l103, y103, z103⟩, st103⟩ := Jvm.LawKit.callS X101 hx (y := (⟨"java/lang/Math", "max", "(II)I"⟩ : MethodName)) hown (mvT hZ (hw _ (List.mem_of_getElem? (i := 86) rfl))) (mvT hZ (hw _ (List.mem_of_getElem? (i := 87) rfl))) (mvT hZ (hw _ (List.mem_of_getElem? (i := 3) rfl))) (mvT hZ (hw _ (List.mem_of_getElem? (i := 88) rfl))) (by decide) (backOf (W := 0) (rm14 l Z a0 hw [] (1 : Int32) v5 h0 n0 Z0 ) hZ (hw _ (List.mem_of_getElem? (i := 88) rfl)) (hw _ (List.mem_of_getElem? (i := 3) rfl)) (by decide) (by decide)) (g := (mkF m 37 #[.val (.long q0), .second, .val (.long q1), .second, .val (.long q2), .second, .val (.int p3), .val (.long v2), .second, .unset, .unset, .unset, .unset, .unset] [(.int v5), (.int (1 : Int32))])) rfl (by rw [hml]; rfl) (argsL := [(.int (1 : Int32)), (.int v5)]) (rest := []) (lenOf pd9 rfl) rfl (by show 2 * 0 + _ ≤ _; exact Nat.le_of_eq rfl) (hb hby at_37) (fun _ _ => ⟨rfl, e101, (by decide : 0 + 0 ≤ _), (by decide : 0 + 0 ≤ _)⟩)
      dsimp only [Pt.U, Pt.locs, Pt.cells, Pt.slots] at X103 l103 y103 z103 st103 hQ103
      subst l103 y103 z103
      obtain ⟨rfl, N103q, e103⟩ := hQ103
      have N103 := Fr.app N101 N103q
      have hgo104 : ∀ t, Steps p.tables e below (T103.setTop (mkF m 42 #[.val (.long q0), .second, .val (.long q1), .second, .val (.long q2), .second, .val (.int p3), .val (.long v2), .second, .val (.int v6), .unset, .unset, .unset, .unset] [])) t → Steps p.tables e below (T101.setTop (mkF m 16 #[.val (.long q0), .second, .val (.long q1), .second, .val (.long q2), .second, .val (.int p3), .val (.long v2), .second, .unset, .unset, .unset, .unset, .unset] [(.int (p3 &&& (1 : Int32)))])) t := by
        intro t kt
        show Steps p.tables e below (T101.setTop (mkF m 16 #[.val (.long q0), .second, .val (.long q1), .second, .val (.long q2), .second, .val (.int p3), .val (.long v2), .second, .unset, .unset, .unset, .unset, .unset] [(.int (p3 &&& (1 : Int32)))])) _
        refine XS.ifYes X101.here hx rfl (pc0 := 16) (pc' := 32) rfl (hb hby at_16) rfl ((if0 _ _).trans (feq hc16_3).2) (by decide) (by decide) ?_
        show Steps p.tables e below (T101.setTop (mkF m 32 #[.val (.long q0), .second, .val (.long q1), .second, .val (.long q2), .second, .val (.int p3), .val (.long v2), .second, .unset, .unset, .unset, .unset, .unset] [])) _
        refine XS.iconst X101.here hx rfl (hb hby at_32) ?_
        show Steps p.tables e below (T101.setTop (mkF m 33 #[.val (.long q0), .second, .val (.long q1), .second, .val (.long q2), .second, .val (.int p3), .val (.long v2), .second, .unset, .unset, .unset, .unset, .unset] [(.int (1 : Int32))])) _
        refine XS.iload X101.here hx rfl (hb hby at_33) rfl ?_
        show Steps p.tables e below (T101.setTop (mkF m 35 #[.val (.long q0), .second, .val (.long q1), .second, .val (.long q2), .second, .val (.int p3), .val (.long v2), .second, .unset, .unset, .unset, .unset, .unset] [(.int p3), (.int (1 : Int32))])) _
        refine XS.iconst X101.here hx rfl (hb hby at_35) ?_
        show Steps p.tables e below (T101.setTop (mkF m 36 #[.val (.long q0), .second, .val (.long q1), .second, .val (.long q2), .second, .val (.int p3), .val (.long v2), .second, .unset, .unset, .unset, .unset, .unset] [(.int (1 : Int32)), (.int p3), (.int (1 : Int32))])) _
        refine XS.iushr X101.here hx rfl (hb hby at_36) rfl ?_
        show Steps p.tables e below (T101.setTop (mkF m 37 #[.val (.long q0), .second, .val (.long q1), .second, .val (.long q2), .second, .val (.int p3), .val (.long v2), .second, .unset, .unset, .unset, .unset, .unset] [(.int ((p3.toUInt32 >>> ((1 : Int32) &&& 31).toUInt32).toInt32)), (.int (1 : Int32))])) _
        rw [← hv5]
        show Steps p.tables e below (T101.setTop (mkF m 37 #[.val (.long q0), .second, .val (.long q1), .second, .val (.long q2), .second, .val (.int p3), .val (.long v2), .second, .unset, .unset, .unset, .unset, .unset] [(.int v5), (.int (1 : Int32))])) _
        refine st103 _ ?_
        show Steps p.tables e below (T103.setTop (mkF m 40 #[.val (.long q0), .second, .val (.long q1), .second, .val (.long q2), .second, .val (.int p3), .val (.long v2), .second, .unset, .unset, .unset, .unset, .unset] [(.int (own_r14 (1 : Int32) v5))])) _
        rw [← hv6]
        show Steps p.tables e below (T103.setTop (mkF m 40 #[.val (.long q0), .second, .val (.long q1), .second, .val (.long q2), .second, .val (.int p3), .val (.long v2), .second, .unset, .unset, .unset, .unset, .unset] [(.int v6)])) _
        refine XS.istore X103.here hx rfl (hb hby at_40) rfl (l' := #[.val (.long q0), .second, .val (.long q1), .second, .val (.long q2), .second, .val (.int p3), .val (.long v2), .second, .val (.int v6), .unset, .unset, .unset, .unset]) rfl ?_
        exact kt
      refine own_arm hgo104 ?_
      exact own_armEnd X103 N103 e103 (by rw [hv7.trans (if_neg hc16_3)]))
  obtain ⟨T106, h106, X106, e106, E106, A106, D106, -, st106⟩ := newO X105 hx hZ hown (hw _ (List.mem_of_getElem? (i := 5) rfl)) (hw _ (List.mem_of_getElem? (i := 6) rfl)) (hw _ (List.mem_of_getElem? (i := 7) rfl)) e105 (g := (mkF m 42 #[.val (.long q0), .second, .val (.long q1), .second, .val (.long q2), .second, .val (.int p3), .val (.long v2), .second, .val (.int v7), .unset, .unset, .unset, .unset] [])) rfl (hb hby at_42) (by decide) (by decide)
  obtain ⟨b106, g106⟩ : ∃ z, z = h0.size := ⟨_, rfl⟩
  rw [← g106] at A106 D106 st106
  have g_b106 : n0 ≤ b106 := Nat.le_trans Z0 (Nat.le_of_eq g106.symm)
  have sz_b106 : h0.size ≤ b106 := Nat.le_trans K0.1 (Nat.le_of_eq g106.symm)
  have Z107 : n0 ≤ h106.size := Nat.le_trans Z0 E106.1
  have K108 : Keep h0 h106 [] := K0.ext E106
  have F109 : Fld Z h106 b106 "com/example/upper_falls/upperfalls/KeyHash" "h1" "J" (.long (0 : Int64)) := D106 (Or.inr (hw _ (List.mem_of_getElem? (i := 20) rfl))) (ty := .long) (by decide)
  have F110 : Fld Z h106 b106 "com/example/upper_falls/upperfalls/KeyHash" "h2" "J" (.long (0 : Int64)) := D106 (Or.inr (hw _ (List.mem_of_getElem? (i := 22) rfl))) (ty := .long) (by decide)
  obtain ⟨_, _, ⟨T111, L111, k111, n111⟩, -, X111, ⟨Lc111, hQ111, l111, y111, z111⟩, st111⟩ := X106.specialBack hx (y := (⟨"com/example/upper_falls/upperfalls/KeyHash", "<init>", "(JJ)V"⟩ : MethodName)) rfl hown (mvT hZ (hw _ (List.mem_of_getElem? (i := 8) rfl))) (mvT hZ (hw _ (List.mem_of_getElem? (i := 9) rfl))) (mvT hZ (hw _ (List.mem_of_getElem? (i := 10) rfl))) (by decide) (backOf (W := 1) (rm2 l Z a0 hw [] b106 q0 q1 (0 : Int64) (0 : Int64) h106 n0 Z107 A106 F109 F110 g_b106) hZ (hw _ (List.mem_of_getElem? (i := 10) rfl)) (hw _ (List.mem_of_getElem? (i := 7) rfl)) (by decide) (by decide)) (g := (mkF m 48 #[.val (.long q0), .second, .val (.long q1), .second, .val (.long q2), .second, .val (.int p3), .val (.long v2), .second, .val (.int v7), .unset, .unset, .unset, .unset] [(.long q1), (.long q0), (.ref b106), (.ref b106)])) rfl (by rw [hml]; rfl) (Steps.refl _) (a := b106) (argsL := [(.long q0), (.long q1)]) (rest := [(.ref b106)]) (lenOf pd10 rfl) rfl (by show 2 * 0 + _ ≤ _; exact Nat.le_of_eq rfl) (hb hby at_48) (fun _ _ => ⟨rfl, e106, (by decide : 1 + 0 ≤ _), (by decide : 2 + 0 ≤ _)⟩)
  dsimp only [Pt.U, Pt.locs, Pt.cells, Pt.slots] at X111 l111 y111 z111 st111 hQ111
  subst l111 y111 z111
  obtain ⟨rfl, N111q, K111q, F111_0, F111_1, F111_2⟩ := hQ111
  have F112 := A106.keep K111q
  have Z113 : n0 ≤ T111.heap.size := Nat.le_trans Z107 K111q.1
  have K114 : Keep h0 T111.heap [] := K108.trans K111q (allS (Or.inr sz_b106) all0)
  have N111 := Fr.app N105 N111q
  obtain ⟨T115, h115, X115, e115, E115, A115, D115, -, st115⟩ := newO X111 hx hZ hown (hw _ (List.mem_of_getElem? (i := 23) rfl)) (hw _ (List.mem_of_getElem? (i := 24) rfl)) (hw _ (List.mem_of_getElem? (i := 25) rfl)) (rfl : T111.heap = T111.heap) (g := (mkF m 53 #[.val (.long q0), .second, .val (.long q1), .second, .val (.long q2), .second, .val (.int p3), .val (.long v2), .second, .val (.int v7), .val (.ref b106), .unset, .unset, .unset] [])) rfl (hb hby at_53) (by decide) (by decide)
  obtain ⟨b115, g115⟩ : ∃ z, z = T111.heap.size := ⟨_, rfl⟩
  rw [← g115] at A115 D115 st115
  have ne_b106_b115 : b106 ≠ b115 := Nat.ne_of_lt (Nat.lt_of_lt_of_le F111_0.lt (Nat.le_of_eq g115.symm))
  have g_b115 : n0 ≤ b115 := Nat.le_trans Z113 (Nat.le_of_eq g115.symm)
  have sz_b115 : h0.size ≤ b115 := Nat.le_trans K114.1 (Nat.le_of_eq g115.symm)
  have F116 := F111_0.ext E115
  have F117 := F111_1.ext E115
  have F118 := F111_2.ext E115
  have Z119 : n0 ≤ h115.size := Nat.le_trans Z113 E115.1
  have K120 : Keep h0 h115 [] := K114.ext E115
  have F121 : Fld Z h115 b115 "com/example/upper_falls/upperfalls/FilterSize" "bits" "J" (.long (0 : Int64)) := D115 (Or.inr (hw _ (List.mem_of_getElem? (i := 31) rfl))) (ty := .long) (by decide)
  have F122 : Fld Z h115 b115 "com/example/upper_falls/upperfalls/FilterSize" "hashes" "I" (.int (0 : Int32)) := D115 (Or.inr (hw _ (List.mem_of_getElem? (i := 33) rfl))) (ty := .int) (by decide)
  obtain ⟨_, _, ⟨T123, L123, k123, n123⟩, -, X123, ⟨Lc123, hQ123, l123, y123, z123⟩, st123⟩ := X115.specialBack hx (y := (⟨"com/example/upper_falls/upperfalls/FilterSize", "<init>", "(JI)V"⟩ : MethodName)) rfl hown (mvT hZ (hw _ (List.mem_of_getElem? (i := 26) rfl))) (mvT hZ (hw _ (List.mem_of_getElem? (i := 27) rfl))) (mvT hZ (hw _ (List.mem_of_getElem? (i := 28) rfl))) (by decide) (backOf (W := 1) (rm5 l Z a0 hw [] b115 v2 v7 (0 : Int64) (0 : Int32) h115 n0 Z119 (own_max1 hv2 : ¬ (v2 < (1 : Int64))) (own_hsh (x := 0) hv4 hv6 hv7 : ¬ (v7 < (1 : Int32))) A115 F121 F122 g_b115) hZ (hw _ (List.mem_of_getElem? (i := 28) rfl)) (hw _ (List.mem_of_getElem? (i := 25) rfl)) (by decide) (by decide)) (g := (mkF m 61 #[.val (.long q0), .second, .val (.long q1), .second, .val (.long q2), .second, .val (.int p3), .val (.long v2), .second, .val (.int v7), .val (.ref b106), .unset, .unset, .unset] [(.int v7), (.long v2), (.ref b115), (.ref b115)])) rfl (by rw [hml]; rfl) (Steps.refl _) (a := b115) (argsL := [(.long v2), (.int v7)]) (rest := [(.ref b115)]) (lenOf pd11 rfl) rfl (by show 2 * 0 + _ ≤ _; exact Nat.le_of_eq rfl) (hb hby at_61) (fun _ _ => ⟨rfl, e115, (by decide : 2 + 0 ≤ _), (by decide : 4 + 0 ≤ _)⟩)
  dsimp only [Pt.U, Pt.locs, Pt.cells, Pt.slots] at X123 l123 y123 z123 st123 hQ123
  subst l123 y123 z123
  obtain ⟨rfl, N123q, K123q, F123_0, F123_1, F123_2⟩ := hQ123
  have F124 := F116.keep K123q
  have F125 := F117.keep K123q (ninS ne_b106_b115 nin0)
  have F126 := F118.keep K123q (ninS ne_b106_b115 nin0)
  have F127 := A115.keep K123q
  have Z128 : n0 ≤ T123.heap.size := Nat.le_trans Z119 K123q.1
  have K129 : Keep h0 T123.heap [] := K120.trans K123q (allS (Or.inr sz_b115) all0)
  have N123 := Fr.app N111 N123q
  obtain ⟨T130, h130, X130, e130, E130, A130, D130, -, st130⟩ := newO X123 hx hZ hown (hw _ (List.mem_of_getElem? (i := 34) rfl)) (hw _ (List.mem_of_getElem? (i := 35) rfl)) (hw _ (List.mem_of_getElem? (i := 36) rfl)) (rfl : T123.heap = T123.heap) (g := (mkF m 66 #[.val (.long q0), .second, .val (.long q1), .second, .val (.long q2), .second, .val (.int p3), .val (.long v2), .second, .val (.int v7), .val (.ref b106), .val (.ref b115), .unset, .unset] [])) rfl (hb hby at_66) (by decide) (by decide)
  obtain ⟨b130, g130⟩ : ∃ z, z = T123.heap.size := ⟨_, rfl⟩
  rw [← g130] at A130 D130 st130
  have ne_b106_b130 : b106 ≠ b130 := Nat.ne_of_lt (Nat.lt_of_lt_of_le F124.lt (Nat.le_of_eq g130.symm))
  have ne_b115_b130 : b115 ≠ b130 := Nat.ne_of_lt (Nat.lt_of_lt_of_le F123_0.lt (Nat.le_of_eq g130.symm))
  have g_b130 : n0 ≤ b130 := Nat.le_trans Z128 (Nat.le_of_eq g130.symm)
  have sz_b130 : h0.size ≤ b130 := Nat.le_trans K129.1 (Nat.le_of_eq g130.symm)
  have F131 := F124.ext E130
  have F132 := F125.ext E130
  have F133 := F126.ext E130
  have F134 := F123_0.ext E130
  have F135 := F123_1.ext E130
  have F136 := F123_2.ext E130
  have Z137 : n0 ≤ h130.size := Nat.le_trans Z128 E130.1
  have K138 : Keep h0 h130 [] := K129.ext E130
  have F139 : Fld Z h130 b130 "com/example/upper_falls/upperfalls/KeyPositions" "bits" "J" (.long (0 : Int64)) := D130 (Or.inr (hw _ (List.mem_of_getElem? (i := 47) rfl))) (ty := .long) (by decide)
  have F140 : Fld Z h130 b130 "com/example/upper_falls/upperfalls/KeyPositions" "hashes" "I" (.int (0 : Int32)) := D130 (Or.inr (hw _ (List.mem_of_getElem? (i := 54) rfl))) (ty := .int) (by decide)
  have F141 : Fld Z h130 b130 "com/example/upper_falls/upperfalls/KeyPositions" "position" "J" (.long (0 : Int64)) := D130 (Or.inl (hw _ (List.mem_of_getElem? (i := 66) rfl))) (ty := .long) (by decide)
  have F142 : Fld Z h130 b130 "com/example/upper_falls/upperfalls/KeyPositions" "step" "J" (.long (0 : Int64)) := D130 (Or.inl (hw _ (List.mem_of_getElem? (i := 73) rfl))) (ty := .long) (by decide)
  have F143 : Fld Z h130 b130 "com/example/upper_falls/upperfalls/KeyPositions" "index" "I" (.int (0 : Int32)) := D130 (Or.inl (hw _ (List.mem_of_getElem? (i := 80) rfl))) (ty := .int) (by decide)
  obtain ⟨_, _, ⟨T144, L144, k144, n144⟩, -, X144, ⟨Lc144, hQ144, l144, y144, z144⟩, st144⟩ := X130.specialBack hx (y := (⟨"com/example/upper_falls/upperfalls/KeyPositions", "<init>", "(Lcom/example/upper_falls/upperfalls/KeyHash;Lcom/example/upper_falls/upperfalls/FilterSize;)V"⟩ : MethodName)) rfl hown (mvT hZ (hw _ (List.mem_of_getElem? (i := 37) rfl))) (mvT hZ (hw _ (List.mem_of_getElem? (i := 38) rfl))) (mvT hZ (hw _ (List.mem_of_getElem? (i := 39) rfl))) (by decide) (backOf (W := 1) (rm6 l Z a0 hw [] b130 b106 b115 v2 (0 : Int64) (0 : Int32) (0 : Int64) (0 : Int64) (0 : Int32) v7 q0 q1 h130 n0 Z137 F135 (own_nz hv2 : ¬ (v2 = (0 : Int64))) F134 A130 F139 F140 F141 F142 F143 ne_b115_b130 g_b130 F136 F132 ne_b106_b130 F131 F133) hZ (hw _ (List.mem_of_getElem? (i := 39) rfl)) (hw _ (List.mem_of_getElem? (i := 36) rfl)) (by decide) (by decide)) (g := (mkF m 74 #[.val (.long q0), .second, .val (.long q1), .second, .val (.long q2), .second, .val (.int p3), .val (.long v2), .second, .val (.int v7), .val (.ref b106), .val (.ref b115), .unset, .unset] [(.ref b115), (.ref b106), (.ref b130), (.ref b130)])) rfl (by rw [hml]; rfl) (Steps.refl _) (a := b130) (argsL := [(.ref b106), (.ref b115)]) (rest := [(.ref b130)]) (lenOf pd12 rfl) rfl (by show 2 * 0 + _ ≤ _; exact Nat.le_of_eq rfl) (hb hby at_74) (fun _ _ => ⟨rfl, e130, (by decide : 3 + 0 ≤ _), (by decide : 9 + 0 ≤ _)⟩)
  dsimp only [Pt.U, Pt.locs, Pt.cells, Pt.slots] at X144 l144 y144 z144 st144 hQ144
  subst l144 y144 z144
  obtain ⟨rfl, N144q, K144q, F144_0, F144_1, F144_2, F144_3, F144_4, F144_5⟩ := hQ144
  have F145 := F131.keep K144q
  have F146 := F132.keep K144q (ninS ne_b106_b130 nin0)
  have F147 := F133.keep K144q (ninS ne_b106_b130 nin0)
  have F148 := F134.keep K144q
  have F149 := F135.keep K144q (ninS ne_b115_b130 nin0)
  have F150 := F136.keep K144q (ninS ne_b115_b130 nin0)
  have F151 := A130.keep K144q
  have Z152 : n0 ≤ T144.heap.size := Nat.le_trans Z137 K144q.1
  have K153 : Keep h0 T144.heap [] := K138.trans K144q (allS (Or.inr sz_b130) all0)
  have N144 := Fr.app N123 N144q
  obtain ⟨cq154, kq154, q154a, q154b, q154c⟩ := isOf hZ (rfl : T144.heap = T144.heap) F144_0
  obtain ⟨_, _, ⟨T154, L154, k154, n154⟩, -, X154, ⟨Lc154, hQ154, l154, y154, z154⟩, st154⟩ := X144.virtualBack hx (y := (⟨"com/example/upper_falls/upperfalls/KeyPositions", "hasNext", "()Z"⟩ : MethodName)) (z := (⟨"com/example/upper_falls/upperfalls/KeyPositions", "hasNext", "()Z"⟩ : MethodName)) hown (mvT hZ (hw _ (List.mem_of_getElem? (i := 74) rfl))) (mvT hZ (hw _ (List.mem_of_getElem? (i := 75) rfl))) (notFace_of_selects (args := #[]) (mvT hZ (hw _ (List.mem_of_getElem? (i := 77) rfl)))) (mvT hZ (hw _ (List.mem_of_getElem? (i := 77) rfl))) (mvT hZ (hw _ (List.mem_of_getElem? (i := 76) rfl))) (by decide) (backOf (W := 0) (rm12 l Z a0 hw [] b130 (0 : Int32) v7 (T144.heap) n0 Z152 F144_5 F144_2) hZ (hw _ (List.mem_of_getElem? (i := 78) rfl)) (hw _ (List.mem_of_getElem? (i := 36) rfl)) (by decide) (by decide)) q154a q154c (g := (mkF m 89 #[.val (.long q0), .second, .val (.long q1), .second, .val (.long q2), .second, .val (.int p3), .val (.long v2), .second, .val (.int v7), .val (.ref b106), .val (.ref b115), .val (.ref b130), .val (.int (1 : Int32))] [(.ref b130)])) rfl (by rw [hml]; rfl) (Steps.refl _) (argsL := []) (rest := []) (lenOf pd13 rfl) rfl (by show 2 * 0 + _ ≤ _; exact Nat.le_of_eq rfl) (hb hby at_89) (fun _ _ => ⟨rfl, (rfl : T144.heap = T144.heap), (by decide : 3 + 0 ≤ _), (by decide : 9 + 0 ≤ _)⟩)
  dsimp only [Pt.U, Pt.locs, Pt.cells, Pt.slots] at X154 l154 y154 z154 st154 hQ154
  subst l154 y154 z154
  obtain ⟨rfl, N154q, e154⟩ := hQ154
  have N154 := Fr.app N144 N154q
  obtain ⟨v9, hv9⟩ : ∃ z : Int32, z = (if (0 : Int32) < v7 then (1 : Int32) else (0 : Int32)) := ⟨_, rfl⟩
  obtain ⟨T157, lc157, X157, N157, e157, st157⟩ := own_mrg (n0 := n0) (h := T144.heap) (g := (mkF m 95 #[.val (.long q0), .second, .val (.long q1), .second, .val (.long q2), .second, .val (.int p3), .val (.long v2), .second, .val (.int v7), .val (.ref b106), .val (.ref b115), .val (.ref b130), .val (.int (1 : Int32))] [(.int v7), (.int (0 : Int32)), (.int (own_r12 (0 : Int32) v7))])) (g' := (mkF m 103 #[.val (.long q0), .second, .val (.long q1), .second, .val (.long q2), .second, .val (.int p3), .val (.long v2), .second, .val (.int v7), .val (.ref b106), .val (.ref b115), .val (.ref b130), .val (.int (1 : Int32))] [(.int v9), (.int (own_r12 (0 : Int32) v7))])) X154 (by
    by_cases hc95_8 : (0 : Int32) < v7
    · have hgo155 : ∀ t, Steps p.tables e below (T154.setTop (mkF m 103 #[.val (.long q0), .second, .val (.long q1), .second, .val (.long q2), .second, .val (.int p3), .val (.long v2), .second, .val (.int v7), .val (.ref b106), .val (.ref b115), .val (.ref b130), .val (.int (1 : Int32))] [(.int (1 : Int32)), (.int (own_r12 (0 : Int32) v7))])) t → Steps p.tables e below (T154.setTop (mkF m 95 #[.val (.long q0), .second, .val (.long q1), .second, .val (.long q2), .second, .val (.int p3), .val (.long v2), .second, .val (.int v7), .val (.ref b106), .val (.ref b115), .val (.ref b130), .val (.int (1 : Int32))] [(.int v7), (.int (0 : Int32)), (.int (own_r12 (0 : Int32) v7))])) t := by
        intro t kt
        show Steps p.tables e below (T154.setTop (mkF m 95 #[.val (.long q0), .second, .val (.long q1), .second, .val (.long q2), .second, .val (.int p3), .val (.long v2), .second, .val (.int v7), .val (.ref b106), .val (.ref b115), .val (.ref b130), .val (.int (1 : Int32))] [(.int v7), (.int (0 : Int32)), (.int (own_r12 (0 : Int32) v7))])) _
        refine XS.icmpNo X154.here hx rfl (hb hby at_95) rfl (tlt hc95_8).2.1 ?_
        show Steps p.tables e below (T154.setTop (mkF m 98 #[.val (.long q0), .second, .val (.long q1), .second, .val (.long q2), .second, .val (.int p3), .val (.long v2), .second, .val (.int v7), .val (.ref b106), .val (.ref b115), .val (.ref b130), .val (.int (1 : Int32))] [(.int (own_r12 (0 : Int32) v7))])) _
        refine XS.iconst X154.here hx rfl (hb hby at_98) ?_
        show Steps p.tables e below (T154.setTop (mkF m 99 #[.val (.long q0), .second, .val (.long q1), .second, .val (.long q2), .second, .val (.int p3), .val (.long v2), .second, .val (.int v7), .val (.ref b106), .val (.ref b115), .val (.ref b130), .val (.int (1 : Int32))] [(.int (1 : Int32)), (.int (own_r12 (0 : Int32) v7))])) _
        refine XS.goto X154.here hx rfl (pc0 := 99) (pc' := 103) rfl (hb hby at_99) (by decide) (by decide) ?_
        exact kt
      refine own_arm hgo155 ?_
      exact own_armEnd X154 N154 e154 (by rw [hv9.trans (if_pos hc95_8)])
    · have hgo156 : ∀ t, Steps p.tables e below (T154.setTop (mkF m 103 #[.val (.long q0), .second, .val (.long q1), .second, .val (.long q2), .second, .val (.int p3), .val (.long v2), .second, .val (.int v7), .val (.ref b106), .val (.ref b115), .val (.ref b130), .val (.int (1 : Int32))] [(.int (0 : Int32)), (.int (own_r12 (0 : Int32) v7))])) t → Steps p.tables e below (T154.setTop (mkF m 95 #[.val (.long q0), .second, .val (.long q1), .second, .val (.long q2), .second, .val (.int p3), .val (.long v2), .second, .val (.int v7), .val (.ref b106), .val (.ref b115), .val (.ref b130), .val (.int (1 : Int32))] [(.int v7), (.int (0 : Int32)), (.int (own_r12 (0 : Int32) v7))])) t := by
        intro t kt
        show Steps p.tables e below (T154.setTop (mkF m 95 #[.val (.long q0), .second, .val (.long q1), .second, .val (.long q2), .second, .val (.int p3), .val (.long v2), .second, .val (.int v7), .val (.ref b106), .val (.ref b115), .val (.ref b130), .val (.int (1 : Int32))] [(.int v7), (.int (0 : Int32)), (.int (own_r12 (0 : Int32) v7))])) _
        refine XS.icmpYes X154.here hx rfl (pc0 := 95) (pc' := 102) rfl (hb hby at_95) rfl (flt hc95_8).2.1 (by decide) (by decide) ?_
        show Steps p.tables e below (T154.setTop (mkF m 102 #[.val (.long q0), .second, .val (.long q1), .second, .val (.long q2), .second, .val (.int p3), .val (.long v2), .second, .val (.int v7), .val (.ref b106), .val (.ref b115), .val (.ref b130), .val (.int (1 : Int32))] [(.int (own_r12 (0 : Int32) v7))])) _
        refine XS.iconst X154.here hx rfl (hb hby at_102) ?_
        exact kt
      refine own_arm hgo156 ?_
      exact own_armEnd X154 N154 e154 (by rw [hv9.trans (if_neg hc95_8)]))
  obtain ⟨v11, hv11⟩ : ∃ z : Int32, z = (if (own_r12 (0 : Int32) v7) = v9 then (1 : Int32) else (0 : Int32)) := ⟨_, rfl⟩
  obtain ⟨T160, lc160, X160, N160, e160, st160⟩ := own_mrg (n0 := n0) (h := T144.heap) (g := (mkF m 103 #[.val (.long q0), .second, .val (.long q1), .second, .val (.long q2), .second, .val (.int p3), .val (.long v2), .second, .val (.int v7), .val (.ref b106), .val (.ref b115), .val (.ref b130), .val (.int (1 : Int32))] [(.int v9), (.int (own_r12 (0 : Int32) v7))])) (g' := (mkF m 111 #[.val (.long q0), .second, .val (.long q1), .second, .val (.long q2), .second, .val (.int p3), .val (.long v2), .second, .val (.int v7), .val (.ref b106), .val (.ref b115), .val (.ref b130), .val (.int (1 : Int32))] [(.int v11)])) X157 (by
    by_cases hc103_10 : (own_r12 (0 : Int32) v7) = v9
    · have hgo158 : ∀ t, Steps p.tables e below (T157.setTop (mkF m 111 #[.val (.long q0), .second, .val (.long q1), .second, .val (.long q2), .second, .val (.int p3), .val (.long v2), .second, .val (.int v7), .val (.ref b106), .val (.ref b115), .val (.ref b130), .val (.int (1 : Int32))] [(.int (1 : Int32))])) t → Steps p.tables e below (T157.setTop (mkF m 103 #[.val (.long q0), .second, .val (.long q1), .second, .val (.long q2), .second, .val (.int p3), .val (.long v2), .second, .val (.int v7), .val (.ref b106), .val (.ref b115), .val (.ref b130), .val (.int (1 : Int32))] [(.int v9), (.int (own_r12 (0 : Int32) v7))])) t := by
        intro t kt
        show Steps p.tables e below (T157.setTop (mkF m 103 #[.val (.long q0), .second, .val (.long q1), .second, .val (.long q2), .second, .val (.int p3), .val (.long v2), .second, .val (.int v7), .val (.ref b106), .val (.ref b115), .val (.ref b130), .val (.int (1 : Int32))] [(.int v9), (.int (own_r12 (0 : Int32) v7))])) _
        refine XS.icmpNo X157.here hx rfl (hb hby at_103) rfl (teq hc103_10).2 ?_
        show Steps p.tables e below (T157.setTop (mkF m 106 #[.val (.long q0), .second, .val (.long q1), .second, .val (.long q2), .second, .val (.int p3), .val (.long v2), .second, .val (.int v7), .val (.ref b106), .val (.ref b115), .val (.ref b130), .val (.int (1 : Int32))] [])) _
        refine XS.iconst X157.here hx rfl (hb hby at_106) ?_
        show Steps p.tables e below (T157.setTop (mkF m 107 #[.val (.long q0), .second, .val (.long q1), .second, .val (.long q2), .second, .val (.int p3), .val (.long v2), .second, .val (.int v7), .val (.ref b106), .val (.ref b115), .val (.ref b130), .val (.int (1 : Int32))] [(.int (1 : Int32))])) _
        refine XS.goto X157.here hx rfl (pc0 := 107) (pc' := 111) rfl (hb hby at_107) (by decide) (by decide) ?_
        exact kt
      refine own_arm hgo158 ?_
      exact own_armEnd X157 N157 e157 (by rw [hv11.trans (if_pos hc103_10)])
    · have hgo159 : ∀ t, Steps p.tables e below (T157.setTop (mkF m 111 #[.val (.long q0), .second, .val (.long q1), .second, .val (.long q2), .second, .val (.int p3), .val (.long v2), .second, .val (.int v7), .val (.ref b106), .val (.ref b115), .val (.ref b130), .val (.int (1 : Int32))] [(.int (0 : Int32))])) t → Steps p.tables e below (T157.setTop (mkF m 103 #[.val (.long q0), .second, .val (.long q1), .second, .val (.long q2), .second, .val (.int p3), .val (.long v2), .second, .val (.int v7), .val (.ref b106), .val (.ref b115), .val (.ref b130), .val (.int (1 : Int32))] [(.int v9), (.int (own_r12 (0 : Int32) v7))])) t := by
        intro t kt
        show Steps p.tables e below (T157.setTop (mkF m 103 #[.val (.long q0), .second, .val (.long q1), .second, .val (.long q2), .second, .val (.int p3), .val (.long v2), .second, .val (.int v7), .val (.ref b106), .val (.ref b115), .val (.ref b130), .val (.int (1 : Int32))] [(.int v9), (.int (own_r12 (0 : Int32) v7))])) _
        refine XS.icmpYes X157.here hx rfl (pc0 := 103) (pc' := 110) rfl (hb hby at_103) rfl (feq hc103_10).2 (by decide) (by decide) ?_
        show Steps p.tables e below (T157.setTop (mkF m 110 #[.val (.long q0), .second, .val (.long q1), .second, .val (.long q2), .second, .val (.int p3), .val (.long v2), .second, .val (.int v7), .val (.ref b106), .val (.ref b115), .val (.ref b130), .val (.int (1 : Int32))] [])) _
        refine XS.iconst X157.here hx rfl (hb hby at_110) ?_
        exact kt
      refine own_arm hgo159 ?_
      exact own_armEnd X157 N157 e157 (by rw [hv11.trans (if_neg hc103_10)]))
  have hgo162 : ∀ t, Steps p.tables e below (T160.setTop (mkF m 116 #[.val (.long q0), .second, .val (.long q1), .second, .val (.long q2), .second, .val (.int p3), .val (.long v2), .second, .val (.int v7), .val (.ref b106), .val (.ref b115), .val (.ref b130), .val (.int v11)] [(.int v7), (.int (0 : Int32))])) t → Steps p.tables e below (s₁.setTop (mkF m 0 #[.val (.long q0), .second, .val (.long q1), .second, .val (.long q2), .second, .val (.int p3), .unset, .unset, .unset, .unset, .unset, .unset, .unset] [])) t := by
    intro t kt
    show Steps p.tables e below (s₁.setTop (mkF m 0 #[.val (.long q0), .second, .val (.long q1), .second, .val (.long q2), .second, .val (.int p3), .unset, .unset, .unset, .unset, .unset, .unset, .unset] [])) _
    refine XS.lconst X0.here hx rfl (hb hby at_0) ?_
    show Steps p.tables e below (s₁.setTop (mkF m 1 #[.val (.long q0), .second, .val (.long q1), .second, .val (.long q2), .second, .val (.int p3), .unset, .unset, .unset, .unset, .unset, .unset, .unset] [(.long (1 : Int64))])) _
    refine XS.lload X0.here hx rfl (hb hby at_1) rfl ?_
    show Steps p.tables e below (s₁.setTop (mkF m 3 #[.val (.long q0), .second, .val (.long q1), .second, .val (.long q2), .second, .val (.int p3), .unset, .unset, .unset, .unset, .unset, .unset, .unset] [(.long q2), (.long (1 : Int64))])) _
    refine X0.ldc2Long hx hown (mvT hZ (hw _ (List.mem_of_getElem? (i := 0) rfl))) (g := (mkF m 3 #[.val (.long q0), .second, .val (.long q1), .second, .val (.long q2), .second, .val (.int p3), .unset, .unset, .unset, .unset, .unset, .unset, .unset] [(.long q2), (.long (1 : Int64))])) rfl (hb hby at_3) _ ?_
    show Steps p.tables e below (s₁.setTop (mkF m 6 #[.val (.long q0), .second, .val (.long q1), .second, .val (.long q2), .second, .val (.int p3), .unset, .unset, .unset, .unset, .unset, .unset, .unset] [(.long (4611686018427387903 : Int64)), (.long q2), (.long (1 : Int64))])) _
    refine XS.land X0.here hx rfl (hb hby at_6) rfl ?_
    show Steps p.tables e below (s₁.setTop (mkF m 7 #[.val (.long q0), .second, .val (.long q1), .second, .val (.long q2), .second, .val (.int p3), .unset, .unset, .unset, .unset, .unset, .unset, .unset] [(.long (q2 &&& (4611686018427387903 : Int64))), (.long (1 : Int64))])) _
    rw [← hv1]
    show Steps p.tables e below (s₁.setTop (mkF m 7 #[.val (.long q0), .second, .val (.long q1), .second, .val (.long q2), .second, .val (.int p3), .unset, .unset, .unset, .unset, .unset, .unset, .unset] [(.long v1), (.long (1 : Int64))])) _
    refine st101 _ ?_
    show Steps p.tables e below (T101.setTop (mkF m 10 #[.val (.long q0), .second, .val (.long q1), .second, .val (.long q2), .second, .val (.int p3), .unset, .unset, .unset, .unset, .unset, .unset, .unset] [(.long (own_r1 (1 : Int64) v1))])) _
    rw [← hv2]
    show Steps p.tables e below (T101.setTop (mkF m 10 #[.val (.long q0), .second, .val (.long q1), .second, .val (.long q2), .second, .val (.int p3), .unset, .unset, .unset, .unset, .unset, .unset, .unset] [(.long v2)])) _
    refine XS.lstore X101.here hx rfl (hb hby at_10) rfl (l' := #[.val (.long q0), .second, .val (.long q1), .second, .val (.long q2), .second, .val (.int p3), .val (.long v2), .second, .unset, .unset, .unset, .unset, .unset]) rfl ?_
    show Steps p.tables e below (T101.setTop (mkF m 12 #[.val (.long q0), .second, .val (.long q1), .second, .val (.long q2), .second, .val (.int p3), .val (.long v2), .second, .unset, .unset, .unset, .unset, .unset] [])) _
    refine XS.iload X101.here hx rfl (hb hby at_12) rfl ?_
    show Steps p.tables e below (T101.setTop (mkF m 14 #[.val (.long q0), .second, .val (.long q1), .second, .val (.long q2), .second, .val (.int p3), .val (.long v2), .second, .unset, .unset, .unset, .unset, .unset] [(.int p3)])) _
    refine XS.iconst X101.here hx rfl (hb hby at_14) ?_
    show Steps p.tables e below (T101.setTop (mkF m 15 #[.val (.long q0), .second, .val (.long q1), .second, .val (.long q2), .second, .val (.int p3), .val (.long v2), .second, .unset, .unset, .unset, .unset, .unset] [(.int (1 : Int32)), (.int p3)])) _
    refine XS.iand X101.here hx rfl (hb hby at_15) rfl ?_
    show Steps p.tables e below (T101.setTop (mkF m 16 #[.val (.long q0), .second, .val (.long q1), .second, .val (.long q2), .second, .val (.int p3), .val (.long v2), .second, .unset, .unset, .unset, .unset, .unset] [(.int (p3 &&& (1 : Int32)))])) _
    refine st105 _ ?_
    show Steps p.tables e below (T105.setTop (mkF m 42 #[.val (.long q0), .second, .val (.long q1), .second, .val (.long q2), .second, .val (.int p3), .val (.long v2), .second, .val (.int v7), .unset, .unset, .unset, .unset] [])) _
    refine st106 _ ?_
    show Steps p.tables e below (T106.setTop (mkF m 45 #[.val (.long q0), .second, .val (.long q1), .second, .val (.long q2), .second, .val (.int p3), .val (.long v2), .second, .val (.int v7), .unset, .unset, .unset, .unset] [(.ref b106)])) _
    refine XS.dup X106.here hx rfl (hb hby at_45) rfl rfl ?_
    show Steps p.tables e below (T106.setTop (mkF m 46 #[.val (.long q0), .second, .val (.long q1), .second, .val (.long q2), .second, .val (.int p3), .val (.long v2), .second, .val (.int v7), .unset, .unset, .unset, .unset] [(.ref b106), (.ref b106)])) _
    refine XS.lloadN X106.here hx rfl (hb hby at_46) rfl ?_
    show Steps p.tables e below (T106.setTop (mkF m 47 #[.val (.long q0), .second, .val (.long q1), .second, .val (.long q2), .second, .val (.int p3), .val (.long v2), .second, .val (.int v7), .unset, .unset, .unset, .unset] [(.long q0), (.ref b106), (.ref b106)])) _
    refine XS.lloadN X106.here hx rfl (hb hby at_47) rfl ?_
    show Steps p.tables e below (T106.setTop (mkF m 48 #[.val (.long q0), .second, .val (.long q1), .second, .val (.long q2), .second, .val (.int p3), .val (.long v2), .second, .val (.int v7), .unset, .unset, .unset, .unset] [(.long q1), (.long q0), (.ref b106), (.ref b106)])) _
    refine st111.trans ?_
    show Steps p.tables e below (T111.setTop (mkF m 51 #[.val (.long q0), .second, .val (.long q1), .second, .val (.long q2), .second, .val (.int p3), .val (.long v2), .second, .val (.int v7), .unset, .unset, .unset, .unset] [(.ref b106)])) _
    refine XS.astore X111.here hx rfl (hb hby at_51) rfl rfl (l' := #[.val (.long q0), .second, .val (.long q1), .second, .val (.long q2), .second, .val (.int p3), .val (.long v2), .second, .val (.int v7), .val (.ref b106), .unset, .unset, .unset]) rfl ?_
    show Steps p.tables e below (T111.setTop (mkF m 53 #[.val (.long q0), .second, .val (.long q1), .second, .val (.long q2), .second, .val (.int p3), .val (.long v2), .second, .val (.int v7), .val (.ref b106), .unset, .unset, .unset] [])) _
    refine st115 _ ?_
    show Steps p.tables e below (T115.setTop (mkF m 56 #[.val (.long q0), .second, .val (.long q1), .second, .val (.long q2), .second, .val (.int p3), .val (.long v2), .second, .val (.int v7), .val (.ref b106), .unset, .unset, .unset] [(.ref b115)])) _
    refine XS.dup X115.here hx rfl (hb hby at_56) rfl rfl ?_
    show Steps p.tables e below (T115.setTop (mkF m 57 #[.val (.long q0), .second, .val (.long q1), .second, .val (.long q2), .second, .val (.int p3), .val (.long v2), .second, .val (.int v7), .val (.ref b106), .unset, .unset, .unset] [(.ref b115), (.ref b115)])) _
    refine XS.lload X115.here hx rfl (hb hby at_57) rfl ?_
    show Steps p.tables e below (T115.setTop (mkF m 59 #[.val (.long q0), .second, .val (.long q1), .second, .val (.long q2), .second, .val (.int p3), .val (.long v2), .second, .val (.int v7), .val (.ref b106), .unset, .unset, .unset] [(.long v2), (.ref b115), (.ref b115)])) _
    refine XS.iload X115.here hx rfl (hb hby at_59) rfl ?_
    show Steps p.tables e below (T115.setTop (mkF m 61 #[.val (.long q0), .second, .val (.long q1), .second, .val (.long q2), .second, .val (.int p3), .val (.long v2), .second, .val (.int v7), .val (.ref b106), .unset, .unset, .unset] [(.int v7), (.long v2), (.ref b115), (.ref b115)])) _
    refine st123.trans ?_
    show Steps p.tables e below (T123.setTop (mkF m 64 #[.val (.long q0), .second, .val (.long q1), .second, .val (.long q2), .second, .val (.int p3), .val (.long v2), .second, .val (.int v7), .val (.ref b106), .unset, .unset, .unset] [(.ref b115)])) _
    refine XS.astore X123.here hx rfl (hb hby at_64) rfl rfl (l' := #[.val (.long q0), .second, .val (.long q1), .second, .val (.long q2), .second, .val (.int p3), .val (.long v2), .second, .val (.int v7), .val (.ref b106), .val (.ref b115), .unset, .unset]) rfl ?_
    show Steps p.tables e below (T123.setTop (mkF m 66 #[.val (.long q0), .second, .val (.long q1), .second, .val (.long q2), .second, .val (.int p3), .val (.long v2), .second, .val (.int v7), .val (.ref b106), .val (.ref b115), .unset, .unset] [])) _
    refine st130 _ ?_
    show Steps p.tables e below (T130.setTop (mkF m 69 #[.val (.long q0), .second, .val (.long q1), .second, .val (.long q2), .second, .val (.int p3), .val (.long v2), .second, .val (.int v7), .val (.ref b106), .val (.ref b115), .unset, .unset] [(.ref b130)])) _
    refine XS.dup X130.here hx rfl (hb hby at_69) rfl rfl ?_
    show Steps p.tables e below (T130.setTop (mkF m 70 #[.val (.long q0), .second, .val (.long q1), .second, .val (.long q2), .second, .val (.int p3), .val (.long v2), .second, .val (.int v7), .val (.ref b106), .val (.ref b115), .unset, .unset] [(.ref b130), (.ref b130)])) _
    refine XS.aload X130.here hx rfl (hb hby at_70) rfl rfl ?_
    show Steps p.tables e below (T130.setTop (mkF m 72 #[.val (.long q0), .second, .val (.long q1), .second, .val (.long q2), .second, .val (.int p3), .val (.long v2), .second, .val (.int v7), .val (.ref b106), .val (.ref b115), .unset, .unset] [(.ref b106), (.ref b130), (.ref b130)])) _
    refine XS.aload X130.here hx rfl (hb hby at_72) rfl rfl ?_
    show Steps p.tables e below (T130.setTop (mkF m 74 #[.val (.long q0), .second, .val (.long q1), .second, .val (.long q2), .second, .val (.int p3), .val (.long v2), .second, .val (.int v7), .val (.ref b106), .val (.ref b115), .unset, .unset] [(.ref b115), (.ref b106), (.ref b130), (.ref b130)])) _
    refine st144.trans ?_
    show Steps p.tables e below (T144.setTop (mkF m 77 #[.val (.long q0), .second, .val (.long q1), .second, .val (.long q2), .second, .val (.int p3), .val (.long v2), .second, .val (.int v7), .val (.ref b106), .val (.ref b115), .unset, .unset] [(.ref b130)])) _
    refine XS.astore X144.here hx rfl (hb hby at_77) rfl rfl (l' := #[.val (.long q0), .second, .val (.long q1), .second, .val (.long q2), .second, .val (.int p3), .val (.long v2), .second, .val (.int v7), .val (.ref b106), .val (.ref b115), .val (.ref b130), .unset]) rfl ?_
    show Steps p.tables e below (T144.setTop (mkF m 79 #[.val (.long q0), .second, .val (.long q1), .second, .val (.long q2), .second, .val (.int p3), .val (.long v2), .second, .val (.int v7), .val (.ref b106), .val (.ref b115), .val (.ref b130), .unset] [])) _
    refine XS.iconst X144.here hx rfl (hb hby at_79) ?_
    show Steps p.tables e below (T144.setTop (mkF m 80 #[.val (.long q0), .second, .val (.long q1), .second, .val (.long q2), .second, .val (.int p3), .val (.long v2), .second, .val (.int v7), .val (.ref b106), .val (.ref b115), .val (.ref b130), .unset] [(.int (1 : Int32))])) _
    refine XS.istore X144.here hx rfl (hb hby at_80) rfl (l' := #[.val (.long q0), .second, .val (.long q1), .second, .val (.long q2), .second, .val (.int p3), .val (.long v2), .second, .val (.int v7), .val (.ref b106), .val (.ref b115), .val (.ref b130), .val (.int (1 : Int32))]) rfl ?_
    show Steps p.tables e below (T144.setTop (mkF m 82 #[.val (.long q0), .second, .val (.long q1), .second, .val (.long q2), .second, .val (.int p3), .val (.long v2), .second, .val (.int v7), .val (.ref b106), .val (.ref b115), .val (.ref b130), .val (.int (1 : Int32))] [])) _
    refine XS.iload X144.here hx rfl (hb hby at_82) rfl ?_
    show Steps p.tables e below (T144.setTop (mkF m 84 #[.val (.long q0), .second, .val (.long q1), .second, .val (.long q2), .second, .val (.int p3), .val (.long v2), .second, .val (.int v7), .val (.ref b106), .val (.ref b115), .val (.ref b130), .val (.int (1 : Int32))] [(.int (1 : Int32))])) _
    refine XS.ifNo X144.here hx rfl (hb hby at_84) rfl ((if0 _ _).trans (feq (by decide : ¬ ((1 : Int32) = (0 : Int32)))).1) ?_
    show Steps p.tables e below (T144.setTop (mkF m 87 #[.val (.long q0), .second, .val (.long q1), .second, .val (.long q2), .second, .val (.int p3), .val (.long v2), .second, .val (.int v7), .val (.ref b106), .val (.ref b115), .val (.ref b130), .val (.int (1 : Int32))] [])) _
    refine XS.aload X144.here hx rfl (hb hby at_87) rfl rfl ?_
    show Steps p.tables e below (T144.setTop (mkF m 89 #[.val (.long q0), .second, .val (.long q1), .second, .val (.long q2), .second, .val (.int p3), .val (.long v2), .second, .val (.int v7), .val (.ref b106), .val (.ref b115), .val (.ref b130), .val (.int (1 : Int32))] [(.ref b130)])) _
    refine st154.trans ?_
    show Steps p.tables e below (T154.setTop (mkF m 92 #[.val (.long q0), .second, .val (.long q1), .second, .val (.long q2), .second, .val (.int p3), .val (.long v2), .second, .val (.int v7), .val (.ref b106), .val (.ref b115), .val (.ref b130), .val (.int (1 : Int32))] [(.int (own_r12 (0 : Int32) v7))])) _
    refine XS.iconst X154.here hx rfl (hb hby at_92) ?_
    show Steps p.tables e below (T154.setTop (mkF m 93 #[.val (.long q0), .second, .val (.long q1), .second, .val (.long q2), .second, .val (.int p3), .val (.long v2), .second, .val (.int v7), .val (.ref b106), .val (.ref b115), .val (.ref b130), .val (.int (1 : Int32))] [(.int (0 : Int32)), (.int (own_r12 (0 : Int32) v7))])) _
    refine XS.iload X154.here hx rfl (hb hby at_93) rfl ?_
    show Steps p.tables e below (T154.setTop (mkF m 95 #[.val (.long q0), .second, .val (.long q1), .second, .val (.long q2), .second, .val (.int p3), .val (.long v2), .second, .val (.int v7), .val (.ref b106), .val (.ref b115), .val (.ref b130), .val (.int (1 : Int32))] [(.int v7), (.int (0 : Int32)), (.int (own_r12 (0 : Int32) v7))])) _
    refine st157 _ ?_
    show Steps p.tables e below (T157.setTop (mkF m 103 #[.val (.long q0), .second, .val (.long q1), .second, .val (.long q2), .second, .val (.int p3), .val (.long v2), .second, .val (.int v7), .val (.ref b106), .val (.ref b115), .val (.ref b130), .val (.int (1 : Int32))] [(.int v9), (.int (own_r12 (0 : Int32) v7))])) _
    refine st160 _ ?_
    show Steps p.tables e below (T160.setTop (mkF m 111 #[.val (.long q0), .second, .val (.long q1), .second, .val (.long q2), .second, .val (.int p3), .val (.long v2), .second, .val (.int v7), .val (.ref b106), .val (.ref b115), .val (.ref b130), .val (.int (1 : Int32))] [(.int v11)])) _
    refine XS.istore X160.here hx rfl (hb hby at_111) rfl (l' := #[.val (.long q0), .second, .val (.long q1), .second, .val (.long q2), .second, .val (.int p3), .val (.long v2), .second, .val (.int v7), .val (.ref b106), .val (.ref b115), .val (.ref b130), .val (.int v11)]) rfl ?_
    show Steps p.tables e below (T160.setTop (mkF m 113 #[.val (.long q0), .second, .val (.long q1), .second, .val (.long q2), .second, .val (.int p3), .val (.long v2), .second, .val (.int v7), .val (.ref b106), .val (.ref b115), .val (.ref b130), .val (.int v11)] [])) _
    refine XS.iconst X160.here hx rfl (hb hby at_113) ?_
    show Steps p.tables e below (T160.setTop (mkF m 114 #[.val (.long q0), .second, .val (.long q1), .second, .val (.long q2), .second, .val (.int p3), .val (.long v2), .second, .val (.int v7), .val (.ref b106), .val (.ref b115), .val (.ref b130), .val (.int v11)] [(.int (0 : Int32))])) _
    refine XS.iload X160.here hx rfl (hb hby at_114) rfl ?_
    exact kt
  refine own_go hgo162 ?_
  by_cases hc116_12 : (0 : Int32) < v7
  · obtain ⟨cq163, kq163, q163a, q163b, q163c⟩ := isOf hZ e160 F144_0
    obtain ⟨_, _, ⟨T163, L163, k163, n163⟩, -, X163, ⟨Lc163, hQ163, l163, y163, z163⟩, st163⟩ := X160.virtualBack hx (y := (⟨"com/example/upper_falls/upperfalls/KeyPositions", "next", "()J"⟩ : MethodName)) (z := (⟨"com/example/upper_falls/upperfalls/KeyPositions", "next", "()J"⟩ : MethodName)) hown (mvT hZ (hw _ (List.mem_of_getElem? (i := 81) rfl))) (mvT hZ (hw _ (List.mem_of_getElem? (i := 82) rfl))) (notFace_of_selects (args := #[]) (mvT hZ (hw _ (List.mem_of_getElem? (i := 84) rfl)))) (mvT hZ (hw _ (List.mem_of_getElem? (i := 84) rfl))) (mvT hZ (hw _ (List.mem_of_getElem? (i := 83) rfl))) (by decide) (backOf (W := 0) (rm13 l Z a0 hw [] b130 (0 : Int32) v7 v2 (own_r10 q0 v2) (own_r10 q1 v2) (T144.heap) n0 Z152 F144_5 F144_2 F144_1 (own_ltne hc116_12 : ¬ ((0 : Int32) = v7)) (own_nz hv2 : ¬ (v2 = (0 : Int64))) F144_3 F144_4 F144_0 g_b130) hZ (hw _ (List.mem_of_getElem? (i := 85) rfl)) (hw _ (List.mem_of_getElem? (i := 36) rfl)) (by decide) (by decide)) q163a q163c (g := (mkF m 121 #[.val (.long q0), .second, .val (.long q1), .second, .val (.long q2), .second, .val (.int p3), .val (.long v2), .second, .val (.int v7), .val (.ref b106), .val (.ref b115), .val (.ref b130), .val (.int v11)] [(.ref b130)])) rfl (by rw [hml]; rfl) (Steps.refl _) (argsL := []) (rest := []) (lenOf pd5 rfl) rfl (by show 2 * 0 + _ ≤ _; exact Nat.le_of_eq rfl) (hb hby at_121) (fun _ _ => ⟨rfl, e160, (by decide : 3 + 0 ≤ _), (by decide : 9 + 0 ≤ _)⟩)
    dsimp only [Pt.U, Pt.locs, Pt.cells, Pt.slots] at X163 l163 y163 z163 st163 hQ163
    subst l163 y163 z163
    obtain ⟨b163_0, b163_1, rfl, N163q, K163q, F163_0, F163_1, F163_2, F163_3, F163_4, F163_5⟩ := hQ163
    have F164 := F145.keep K163q
    have F165 := F146.keep K163q (ninS ne_b106_b130 nin0)
    have F166 := F147.keep K163q (ninS ne_b106_b130 nin0)
    have F167 := F148.keep K163q
    have F168 := F149.keep K163q (ninS ne_b115_b130 nin0)
    have F169 := F150.keep K163q (ninS ne_b115_b130 nin0)
    have F170 := F144_0.keep K163q
    have Z171 : n0 ≤ T163.heap.size := Nat.le_trans Z152 K163q.1
    have K172 : Keep h0 T163.heap [] := K153.trans K163q (allS (Or.inr sz_b130) all0)
    have F163_1f : Fld Z T163.heap b130 "com/example/upper_falls/upperfalls/KeyPositions" "index" "I" (.int (1 : Int32)) := F163_1
    have N163 := Fr.app N160 N163q
    obtain ⟨v15, hv15⟩ : ∃ z : Int32, z = (if (1 : Int32) < v7 then (1 : Int32) else (0 : Int32)) := ⟨_, rfl⟩
    obtain ⟨v17, hv17⟩ : ∃ z : Int32, z = (if (own_r12 (1 : Int32) v7) = v15 then (1 : Int32) else (0 : Int32)) := ⟨_, rfl⟩
    obtain ⟨v18, hv18⟩ : ∃ z : Int32, z = (if v11 = (0 : Int32) then (0 : Int32) else v17) := ⟨_, rfl⟩
    obtain ⟨T182, lc182, X182, N182, e182, st182⟩ := own_mrg (n0 := n0) (h := T163.heap) (g := (mkF m 127 #[.val (.long q0), .second, .val (.long q1), .second, .val (.long q2), .second, .val (.int p3), .val (.long v2), .second, .val (.int v7), .val (.ref b106), .val (.ref b115), .val (.ref b130), .val (.int v11)] [(.int v11)])) (g' := (mkF m 154 #[.val (.long q0), .second, .val (.long q1), .second, .val (.long q2), .second, .val (.int p3), .val (.long v2), .second, .val (.int v7), .val (.ref b106), .val (.ref b115), .val (.ref b130), .val (.int v11)] [(.int v18)])) X163 (by
      by_cases hc127_13 : v11 = (0 : Int32)
      · have hgo173 : ∀ t, Steps p.tables e below (T163.setTop (mkF m 154 #[.val (.long q0), .second, .val (.long q1), .second, .val (.long q2), .second, .val (.int p3), .val (.long v2), .second, .val (.int v7), .val (.ref b106), .val (.ref b115), .val (.ref b130), .val (.int v11)] [(.int (0 : Int32))])) t → Steps p.tables e below (T163.setTop (mkF m 127 #[.val (.long q0), .second, .val (.long q1), .second, .val (.long q2), .second, .val (.int p3), .val (.long v2), .second, .val (.int v7), .val (.ref b106), .val (.ref b115), .val (.ref b130), .val (.int v11)] [(.int v11)])) t := by
          intro t kt
          show Steps p.tables e below (T163.setTop (mkF m 127 #[.val (.long q0), .second, .val (.long q1), .second, .val (.long q2), .second, .val (.int p3), .val (.long v2), .second, .val (.int v7), .val (.ref b106), .val (.ref b115), .val (.ref b130), .val (.int v11)] [(.int v11)])) _
          refine XS.ifYes X163.here hx rfl (pc0 := 127) (pc' := 153) rfl (hb hby at_127) rfl ((if0 _ _).trans (teq hc127_13).1) (by decide) (by decide) ?_
          show Steps p.tables e below (T163.setTop (mkF m 153 #[.val (.long q0), .second, .val (.long q1), .second, .val (.long q2), .second, .val (.int p3), .val (.long v2), .second, .val (.int v7), .val (.ref b106), .val (.ref b115), .val (.ref b130), .val (.int v11)] [])) _
          refine XS.iconst X163.here hx rfl (hb hby at_153) ?_
          exact kt
        refine own_arm hgo173 ?_
        exact own_armEnd X163 N163 (rfl : T163.heap = T163.heap) (by rw [hv18.trans (if_pos hc127_13)])
      · obtain ⟨cq174, kq174, q174a, q174b, q174c⟩ := isOf hZ (rfl : T163.heap = T163.heap) F163_0
        obtain ⟨_, _, ⟨T174, L174, k174, n174⟩, -, X174, ⟨Lc174, hQ174, l174, y174, z174⟩, st174⟩ := X163.virtualBack hx (y := (⟨"com/example/upper_falls/upperfalls/KeyPositions", "hasNext", "()Z"⟩ : MethodName)) (z := (⟨"com/example/upper_falls/upperfalls/KeyPositions", "hasNext", "()Z"⟩ : MethodName)) hown (mvT hZ (hw _ (List.mem_of_getElem? (i := 74) rfl))) (mvT hZ (hw _ (List.mem_of_getElem? (i := 75) rfl))) (notFace_of_selects (args := #[]) (mvT hZ (hw _ (List.mem_of_getElem? (i := 77) rfl)))) (mvT hZ (hw _ (List.mem_of_getElem? (i := 77) rfl))) (mvT hZ (hw _ (List.mem_of_getElem? (i := 76) rfl))) (by decide) (backOf (W := 0) (rm12 l Z a0 hw [] b130 (1 : Int32) v7 (T163.heap) n0 Z171 F163_1f F163_2) hZ (hw _ (List.mem_of_getElem? (i := 78) rfl)) (hw _ (List.mem_of_getElem? (i := 36) rfl)) (by decide) (by decide)) q174a q174c (g := (mkF m 132 #[.val (.long q0), .second, .val (.long q1), .second, .val (.long q2), .second, .val (.int p3), .val (.long v2), .second, .val (.int v7), .val (.ref b106), .val (.ref b115), .val (.ref b130), .val (.int v11)] [(.ref b130)])) rfl (by rw [hml]; rfl) (Steps.refl _) (argsL := []) (rest := []) (lenOf pd13 rfl) rfl (by show 2 * 0 + _ ≤ _; exact Nat.le_of_eq rfl) (hb hby at_132) (fun _ _ => ⟨rfl, (rfl : T163.heap = T163.heap), (by decide : 3 + 0 ≤ _), (by decide : 9 + 0 ≤ _)⟩)
        dsimp only [Pt.U, Pt.locs, Pt.cells, Pt.slots] at X174 l174 y174 z174 st174 hQ174
        subst l174 y174 z174
        obtain ⟨rfl, N174q, e174⟩ := hQ174
        have N174 := Fr.app N163 N174q
        obtain ⟨T177, lc177, X177, N177, e177, st177⟩ := own_mrg (n0 := n0) (h := T163.heap) (g := (mkF m 138 #[.val (.long q0), .second, .val (.long q1), .second, .val (.long q2), .second, .val (.int p3), .val (.long v2), .second, .val (.int v7), .val (.ref b106), .val (.ref b115), .val (.ref b130), .val (.int v11)] [(.int v7), (.int (1 : Int32)), (.int (own_r12 (1 : Int32) v7))])) (g' := (mkF m 146 #[.val (.long q0), .second, .val (.long q1), .second, .val (.long q2), .second, .val (.int p3), .val (.long v2), .second, .val (.int v7), .val (.ref b106), .val (.ref b115), .val (.ref b130), .val (.int v11)] [(.int v15), (.int (own_r12 (1 : Int32) v7))])) X174 (by
          by_cases hc138_14 : (1 : Int32) < v7
          · have hgo175 : ∀ t, Steps p.tables e below (T174.setTop (mkF m 146 #[.val (.long q0), .second, .val (.long q1), .second, .val (.long q2), .second, .val (.int p3), .val (.long v2), .second, .val (.int v7), .val (.ref b106), .val (.ref b115), .val (.ref b130), .val (.int v11)] [(.int (1 : Int32)), (.int (own_r12 (1 : Int32) v7))])) t → Steps p.tables e below (T174.setTop (mkF m 138 #[.val (.long q0), .second, .val (.long q1), .second, .val (.long q2), .second, .val (.int p3), .val (.long v2), .second, .val (.int v7), .val (.ref b106), .val (.ref b115), .val (.ref b130), .val (.int v11)] [(.int v7), (.int (1 : Int32)), (.int (own_r12 (1 : Int32) v7))])) t := by
              intro t kt
              show Steps p.tables e below (T174.setTop (mkF m 138 #[.val (.long q0), .second, .val (.long q1), .second, .val (.long q2), .second, .val (.int p3), .val (.long v2), .second, .val (.int v7), .val (.ref b106), .val (.ref b115), .val (.ref b130), .val (.int v11)] [(.int v7), (.int (1 : Int32)), (.int (own_r12 (1 : Int32) v7))])) _
              refine XS.icmpNo X174.here hx rfl (hb hby at_138) rfl (tlt hc138_14).2.1 ?_
              show Steps p.tables e below (T174.setTop (mkF m 141 #[.val (.long q0), .second, .val (.long q1), .second, .val (.long q2), .second, .val (.int p3), .val (.long v2), .second, .val (.int v7), .val (.ref b106), .val (.ref b115), .val (.ref b130), .val (.int v11)] [(.int (own_r12 (1 : Int32) v7))])) _
              refine XS.iconst X174.here hx rfl (hb hby at_141) ?_
              show Steps p.tables e below (T174.setTop (mkF m 142 #[.val (.long q0), .second, .val (.long q1), .second, .val (.long q2), .second, .val (.int p3), .val (.long v2), .second, .val (.int v7), .val (.ref b106), .val (.ref b115), .val (.ref b130), .val (.int v11)] [(.int (1 : Int32)), (.int (own_r12 (1 : Int32) v7))])) _
              refine XS.goto X174.here hx rfl (pc0 := 142) (pc' := 146) rfl (hb hby at_142) (by decide) (by decide) ?_
              exact kt
            refine own_arm hgo175 ?_
            exact own_armEnd X174 N174 e174 (by rw [hv15.trans (if_pos hc138_14)])
          · have hgo176 : ∀ t, Steps p.tables e below (T174.setTop (mkF m 146 #[.val (.long q0), .second, .val (.long q1), .second, .val (.long q2), .second, .val (.int p3), .val (.long v2), .second, .val (.int v7), .val (.ref b106), .val (.ref b115), .val (.ref b130), .val (.int v11)] [(.int (0 : Int32)), (.int (own_r12 (1 : Int32) v7))])) t → Steps p.tables e below (T174.setTop (mkF m 138 #[.val (.long q0), .second, .val (.long q1), .second, .val (.long q2), .second, .val (.int p3), .val (.long v2), .second, .val (.int v7), .val (.ref b106), .val (.ref b115), .val (.ref b130), .val (.int v11)] [(.int v7), (.int (1 : Int32)), (.int (own_r12 (1 : Int32) v7))])) t := by
              intro t kt
              show Steps p.tables e below (T174.setTop (mkF m 138 #[.val (.long q0), .second, .val (.long q1), .second, .val (.long q2), .second, .val (.int p3), .val (.long v2), .second, .val (.int v7), .val (.ref b106), .val (.ref b115), .val (.ref b130), .val (.int v11)] [(.int v7), (.int (1 : Int32)), (.int (own_r12 (1 : Int32) v7))])) _
              refine XS.icmpYes X174.here hx rfl (pc0 := 138) (pc' := 145) rfl (hb hby at_138) rfl (flt hc138_14).2.1 (by decide) (by decide) ?_
              show Steps p.tables e below (T174.setTop (mkF m 145 #[.val (.long q0), .second, .val (.long q1), .second, .val (.long q2), .second, .val (.int p3), .val (.long v2), .second, .val (.int v7), .val (.ref b106), .val (.ref b115), .val (.ref b130), .val (.int v11)] [(.int (own_r12 (1 : Int32) v7))])) _
              refine XS.iconst X174.here hx rfl (hb hby at_145) ?_
              exact kt
            refine own_arm hgo176 ?_
            exact own_armEnd X174 N174 e174 (by rw [hv15.trans (if_neg hc138_14)]))
        obtain ⟨T180, lc180, X180, N180, e180, st180⟩ := own_mrg (n0 := n0) (h := T163.heap) (g := (mkF m 146 #[.val (.long q0), .second, .val (.long q1), .second, .val (.long q2), .second, .val (.int p3), .val (.long v2), .second, .val (.int v7), .val (.ref b106), .val (.ref b115), .val (.ref b130), .val (.int v11)] [(.int v15), (.int (own_r12 (1 : Int32) v7))])) (g' := (mkF m 154 #[.val (.long q0), .second, .val (.long q1), .second, .val (.long q2), .second, .val (.int p3), .val (.long v2), .second, .val (.int v7), .val (.ref b106), .val (.ref b115), .val (.ref b130), .val (.int v11)] [(.int v17)])) X177 (by
          by_cases hc146_16 : (own_r12 (1 : Int32) v7) = v15
          · have hgo178 : ∀ t, Steps p.tables e below (T177.setTop (mkF m 154 #[.val (.long q0), .second, .val (.long q1), .second, .val (.long q2), .second, .val (.int p3), .val (.long v2), .second, .val (.int v7), .val (.ref b106), .val (.ref b115), .val (.ref b130), .val (.int v11)] [(.int (1 : Int32))])) t → Steps p.tables e below (T177.setTop (mkF m 146 #[.val (.long q0), .second, .val (.long q1), .second, .val (.long q2), .second, .val (.int p3), .val (.long v2), .second, .val (.int v7), .val (.ref b106), .val (.ref b115), .val (.ref b130), .val (.int v11)] [(.int v15), (.int (own_r12 (1 : Int32) v7))])) t := by
              intro t kt
              show Steps p.tables e below (T177.setTop (mkF m 146 #[.val (.long q0), .second, .val (.long q1), .second, .val (.long q2), .second, .val (.int p3), .val (.long v2), .second, .val (.int v7), .val (.ref b106), .val (.ref b115), .val (.ref b130), .val (.int v11)] [(.int v15), (.int (own_r12 (1 : Int32) v7))])) _
              refine XS.icmpNo X177.here hx rfl (hb hby at_146) rfl (teq hc146_16).2 ?_
              show Steps p.tables e below (T177.setTop (mkF m 149 #[.val (.long q0), .second, .val (.long q1), .second, .val (.long q2), .second, .val (.int p3), .val (.long v2), .second, .val (.int v7), .val (.ref b106), .val (.ref b115), .val (.ref b130), .val (.int v11)] [])) _
              refine XS.iconst X177.here hx rfl (hb hby at_149) ?_
              show Steps p.tables e below (T177.setTop (mkF m 150 #[.val (.long q0), .second, .val (.long q1), .second, .val (.long q2), .second, .val (.int p3), .val (.long v2), .second, .val (.int v7), .val (.ref b106), .val (.ref b115), .val (.ref b130), .val (.int v11)] [(.int (1 : Int32))])) _
              refine XS.goto X177.here hx rfl (pc0 := 150) (pc' := 154) rfl (hb hby at_150) (by decide) (by decide) ?_
              exact kt
            refine own_arm hgo178 ?_
            exact own_armEnd X177 N177 e177 (by rw [hv17.trans (if_pos hc146_16)])
          · have hgo179 : ∀ t, Steps p.tables e below (T177.setTop (mkF m 154 #[.val (.long q0), .second, .val (.long q1), .second, .val (.long q2), .second, .val (.int p3), .val (.long v2), .second, .val (.int v7), .val (.ref b106), .val (.ref b115), .val (.ref b130), .val (.int v11)] [(.int (0 : Int32))])) t → Steps p.tables e below (T177.setTop (mkF m 146 #[.val (.long q0), .second, .val (.long q1), .second, .val (.long q2), .second, .val (.int p3), .val (.long v2), .second, .val (.int v7), .val (.ref b106), .val (.ref b115), .val (.ref b130), .val (.int v11)] [(.int v15), (.int (own_r12 (1 : Int32) v7))])) t := by
              intro t kt
              show Steps p.tables e below (T177.setTop (mkF m 146 #[.val (.long q0), .second, .val (.long q1), .second, .val (.long q2), .second, .val (.int p3), .val (.long v2), .second, .val (.int v7), .val (.ref b106), .val (.ref b115), .val (.ref b130), .val (.int v11)] [(.int v15), (.int (own_r12 (1 : Int32) v7))])) _
              refine XS.icmpYes X177.here hx rfl (pc0 := 146) (pc' := 153) rfl (hb hby at_146) rfl (feq hc146_16).2 (by decide) (by decide) ?_
              show Steps p.tables e below (T177.setTop (mkF m 153 #[.val (.long q0), .second, .val (.long q1), .second, .val (.long q2), .second, .val (.int p3), .val (.long v2), .second, .val (.int v7), .val (.ref b106), .val (.ref b115), .val (.ref b130), .val (.int v11)] [])) _
              refine XS.iconst X177.here hx rfl (hb hby at_153) ?_
              exact kt
            refine own_arm hgo179 ?_
            exact own_armEnd X177 N177 e177 (by rw [hv17.trans (if_neg hc146_16)]))
        have hgo181 : ∀ t, Steps p.tables e below (T180.setTop (mkF m 154 #[.val (.long q0), .second, .val (.long q1), .second, .val (.long q2), .second, .val (.int p3), .val (.long v2), .second, .val (.int v7), .val (.ref b106), .val (.ref b115), .val (.ref b130), .val (.int v11)] [(.int v17)])) t → Steps p.tables e below (T163.setTop (mkF m 127 #[.val (.long q0), .second, .val (.long q1), .second, .val (.long q2), .second, .val (.int p3), .val (.long v2), .second, .val (.int v7), .val (.ref b106), .val (.ref b115), .val (.ref b130), .val (.int v11)] [(.int v11)])) t := by
          intro t kt
          show Steps p.tables e below (T163.setTop (mkF m 127 #[.val (.long q0), .second, .val (.long q1), .second, .val (.long q2), .second, .val (.int p3), .val (.long v2), .second, .val (.int v7), .val (.ref b106), .val (.ref b115), .val (.ref b130), .val (.int v11)] [(.int v11)])) _
          refine XS.ifNo X163.here hx rfl (hb hby at_127) rfl ((if0 _ _).trans (feq hc127_13).1) ?_
          show Steps p.tables e below (T163.setTop (mkF m 130 #[.val (.long q0), .second, .val (.long q1), .second, .val (.long q2), .second, .val (.int p3), .val (.long v2), .second, .val (.int v7), .val (.ref b106), .val (.ref b115), .val (.ref b130), .val (.int v11)] [])) _
          refine XS.aload X163.here hx rfl (hb hby at_130) rfl rfl ?_
          show Steps p.tables e below (T163.setTop (mkF m 132 #[.val (.long q0), .second, .val (.long q1), .second, .val (.long q2), .second, .val (.int p3), .val (.long v2), .second, .val (.int v7), .val (.ref b106), .val (.ref b115), .val (.ref b130), .val (.int v11)] [(.ref b130)])) _
          refine st174.trans ?_
          show Steps p.tables e below (T174.setTop (mkF m 135 #[.val (.long q0), .second, .val (.long q1), .second, .val (.long q2), .second, .val (.int p3), .val (.long v2), .second, .val (.int v7), .val (.ref b106), .val (.ref b115), .val (.ref b130), .val (.int v11)] [(.int (own_r12 (1 : Int32) v7))])) _
          refine XS.iconst X174.here hx rfl (hb hby at_135) ?_
          show Steps p.tables e below (T174.setTop (mkF m 136 #[.val (.long q0), .second, .val (.long q1), .second, .val (.long q2), .second, .val (.int p3), .val (.long v2), .second, .val (.int v7), .val (.ref b106), .val (.ref b115), .val (.ref b130), .val (.int v11)] [(.int (1 : Int32)), (.int (own_r12 (1 : Int32) v7))])) _
          refine XS.iload X174.here hx rfl (hb hby at_136) rfl ?_
          show Steps p.tables e below (T174.setTop (mkF m 138 #[.val (.long q0), .second, .val (.long q1), .second, .val (.long q2), .second, .val (.int p3), .val (.long v2), .second, .val (.int v7), .val (.ref b106), .val (.ref b115), .val (.ref b130), .val (.int v11)] [(.int v7), (.int (1 : Int32)), (.int (own_r12 (1 : Int32) v7))])) _
          refine st177 _ ?_
          show Steps p.tables e below (T177.setTop (mkF m 146 #[.val (.long q0), .second, .val (.long q1), .second, .val (.long q2), .second, .val (.int p3), .val (.long v2), .second, .val (.int v7), .val (.ref b106), .val (.ref b115), .val (.ref b130), .val (.int v11)] [(.int v15), (.int (own_r12 (1 : Int32) v7))])) _
          refine st180 _ ?_
          exact kt
        refine own_arm hgo181 ?_
        exact own_armEnd X180 N180 e180 (by rw [hv18.trans (if_neg hc127_13)]))
    have hgo184 : ∀ t, Steps p.tables e below (T182.setTop (mkF m 159 #[.val (.long q0), .second, .val (.long q1), .second, .val (.long q2), .second, .val (.int p3), .val (.long v2), .second, .val (.int v7), .val (.ref b106), .val (.ref b115), .val (.ref b130), .val (.int v18)] [(.int v7), (.int (1 : Int32))])) t → Steps p.tables e below (T160.setTop (mkF m 116 #[.val (.long q0), .second, .val (.long q1), .second, .val (.long q2), .second, .val (.int p3), .val (.long v2), .second, .val (.int v7), .val (.ref b106), .val (.ref b115), .val (.ref b130), .val (.int v11)] [(.int v7), (.int (0 : Int32))])) t := by
      intro t kt
      show Steps p.tables e below (T160.setTop (mkF m 116 #[.val (.long q0), .second, .val (.long q1), .second, .val (.long q2), .second, .val (.int p3), .val (.long v2), .second, .val (.int v7), .val (.ref b106), .val (.ref b115), .val (.ref b130), .val (.int v11)] [(.int v7), (.int (0 : Int32))])) _
      refine XS.icmpNo X160.here hx rfl (hb hby at_116) rfl (tlt hc116_12).2.1 ?_
      show Steps p.tables e below (T160.setTop (mkF m 119 #[.val (.long q0), .second, .val (.long q1), .second, .val (.long q2), .second, .val (.int p3), .val (.long v2), .second, .val (.int v7), .val (.ref b106), .val (.ref b115), .val (.ref b130), .val (.int v11)] [])) _
      refine XS.aload X160.here hx rfl (hb hby at_119) rfl rfl ?_
      show Steps p.tables e below (T160.setTop (mkF m 121 #[.val (.long q0), .second, .val (.long q1), .second, .val (.long q2), .second, .val (.int p3), .val (.long v2), .second, .val (.int v7), .val (.ref b106), .val (.ref b115), .val (.ref b130), .val (.int v11)] [(.ref b130)])) _
      refine st163.trans ?_
      show Steps p.tables e below (T163.setTop (mkF m 124 #[.val (.long q0), .second, .val (.long q1), .second, .val (.long q2), .second, .val (.int p3), .val (.long v2), .second, .val (.int v7), .val (.ref b106), .val (.ref b115), .val (.ref b130), .val (.int v11)] [(.long (own_r13 (0 : Int32) v2 (own_r10 q0 v2) (own_r10 q1 v2)))])) _
      jvm_step X163.here [X163.here.top, hx, (hb hby at_124), Value.category]
      show Steps p.tables e below (T163.setTop (mkF m 125 #[.val (.long q0), .second, .val (.long q1), .second, .val (.long q2), .second, .val (.int p3), .val (.long v2), .second, .val (.int v7), .val (.ref b106), .val (.ref b115), .val (.ref b130), .val (.int v11)] [])) _
      refine XS.iload X163.here hx rfl (hb hby at_125) rfl ?_
      show Steps p.tables e below (T163.setTop (mkF m 127 #[.val (.long q0), .second, .val (.long q1), .second, .val (.long q2), .second, .val (.int p3), .val (.long v2), .second, .val (.int v7), .val (.ref b106), .val (.ref b115), .val (.ref b130), .val (.int v11)] [(.int v11)])) _
      refine st182 _ ?_
      show Steps p.tables e below (T182.setTop (mkF m 154 #[.val (.long q0), .second, .val (.long q1), .second, .val (.long q2), .second, .val (.int p3), .val (.long v2), .second, .val (.int v7), .val (.ref b106), .val (.ref b115), .val (.ref b130), .val (.int v11)] [(.int v18)])) _
      refine XS.istore X182.here hx rfl (hb hby at_154) rfl (l' := #[.val (.long q0), .second, .val (.long q1), .second, .val (.long q2), .second, .val (.int p3), .val (.long v2), .second, .val (.int v7), .val (.ref b106), .val (.ref b115), .val (.ref b130), .val (.int v18)]) rfl ?_
      show Steps p.tables e below (T182.setTop (mkF m 156 #[.val (.long q0), .second, .val (.long q1), .second, .val (.long q2), .second, .val (.int p3), .val (.long v2), .second, .val (.int v7), .val (.ref b106), .val (.ref b115), .val (.ref b130), .val (.int v18)] [])) _
      refine XS.iconst X182.here hx rfl (hb hby at_156) ?_
      show Steps p.tables e below (T182.setTop (mkF m 157 #[.val (.long q0), .second, .val (.long q1), .second, .val (.long q2), .second, .val (.int p3), .val (.long v2), .second, .val (.int v7), .val (.ref b106), .val (.ref b115), .val (.ref b130), .val (.int v18)] [(.int (1 : Int32))])) _
      refine XS.iload X182.here hx rfl (hb hby at_157) rfl ?_
      exact kt
    refine own_go hgo184 ?_
    by_cases hc159_19 : (1 : Int32) < v7
    · obtain ⟨cq185, kq185, q185a, q185b, q185c⟩ := isOf hZ e182 F163_0
      obtain ⟨_, _, ⟨T185, L185, k185, n185⟩, -, X185, ⟨Lc185, hQ185, l185, y185, z185⟩, st185⟩ := X182.virtualBack hx (y := (⟨"com/example/upper_falls/upperfalls/KeyPositions", "next", "()J"⟩ : MethodName)) (z := (⟨"com/example/upper_falls/upperfalls/KeyPositions", "next", "()J"⟩ : MethodName)) hown (mvT hZ (hw _ (List.mem_of_getElem? (i := 81) rfl))) (mvT hZ (hw _ (List.mem_of_getElem? (i := 82) rfl))) (notFace_of_selects (args := #[]) (mvT hZ (hw _ (List.mem_of_getElem? (i := 84) rfl)))) (mvT hZ (hw _ (List.mem_of_getElem? (i := 84) rfl))) (mvT hZ (hw _ (List.mem_of_getElem? (i := 83) rfl))) (by decide) (backOf (W := 0) (rm13 l Z a0 hw [] b130 (1 : Int32) v7 v2 b163_0 b163_1 (T163.heap) n0 Z171 F163_1f F163_2 F163_3 (own_ltne hc159_19 : ¬ ((1 : Int32) = v7)) (own_nz hv2 : ¬ (v2 = (0 : Int64))) F163_4 F163_5 F163_0 g_b130) hZ (hw _ (List.mem_of_getElem? (i := 85) rfl)) (hw _ (List.mem_of_getElem? (i := 36) rfl)) (by decide) (by decide)) q185a q185c (g := (mkF m 164 #[.val (.long q0), .second, .val (.long q1), .second, .val (.long q2), .second, .val (.int p3), .val (.long v2), .second, .val (.int v7), .val (.ref b106), .val (.ref b115), .val (.ref b130), .val (.int v18)] [(.ref b130)])) rfl (by rw [hml]; rfl) (Steps.refl _) (argsL := []) (rest := []) (lenOf pd5 rfl) rfl (by show 2 * 0 + _ ≤ _; exact Nat.le_of_eq rfl) (hb hby at_164) (fun _ _ => ⟨rfl, e182, (by decide : 3 + 0 ≤ _), (by decide : 9 + 0 ≤ _)⟩)
      dsimp only [Pt.U, Pt.locs, Pt.cells, Pt.slots] at X185 l185 y185 z185 st185 hQ185
      subst l185 y185 z185
      obtain ⟨b185_0, b185_1, rfl, N185q, K185q, F185_0, F185_1, F185_2, F185_3, F185_4, F185_5⟩ := hQ185
      have F186 := F164.keep K185q
      have F187 := F165.keep K185q (ninS ne_b106_b130 nin0)
      have F188 := F166.keep K185q (ninS ne_b106_b130 nin0)
      have F189 := F167.keep K185q
      have F190 := F168.keep K185q (ninS ne_b115_b130 nin0)
      have F191 := F169.keep K185q (ninS ne_b115_b130 nin0)
      have F192 := F163_0.keep K185q
      have Z193 : n0 ≤ T185.heap.size := Nat.le_trans Z171 K185q.1
      have K194 : Keep h0 T185.heap [] := K172.trans K185q (allS (Or.inr sz_b130) all0)
      have F185_1f : Fld Z T185.heap b130 "com/example/upper_falls/upperfalls/KeyPositions" "index" "I" (.int (2 : Int32)) := F185_1
      have N185 := Fr.app N182 N185q
      obtain ⟨v22, hv22⟩ : ∃ z : Int32, z = (if (2 : Int32) < v7 then (1 : Int32) else (0 : Int32)) := ⟨_, rfl⟩
      obtain ⟨v24, hv24⟩ : ∃ z : Int32, z = (if (own_r12 (2 : Int32) v7) = v22 then (1 : Int32) else (0 : Int32)) := ⟨_, rfl⟩
      obtain ⟨v25, hv25⟩ : ∃ z : Int32, z = (if v18 = (0 : Int32) then (0 : Int32) else v24) := ⟨_, rfl⟩
      obtain ⟨T204, lc204, X204, N204, e204, st204⟩ := own_mrg (n0 := n0) (h := T185.heap) (g := (mkF m 170 #[.val (.long q0), .second, .val (.long q1), .second, .val (.long q2), .second, .val (.int p3), .val (.long v2), .second, .val (.int v7), .val (.ref b106), .val (.ref b115), .val (.ref b130), .val (.int v18)] [(.int v18)])) (g' := (mkF m 197 #[.val (.long q0), .second, .val (.long q1), .second, .val (.long q2), .second, .val (.int p3), .val (.long v2), .second, .val (.int v7), .val (.ref b106), .val (.ref b115), .val (.ref b130), .val (.int v18)] [(.int v25)])) X185 (by
        by_cases hc170_20 : v18 = (0 : Int32)
        · have hgo195 : ∀ t, Steps p.tables e below (T185.setTop (mkF m 197 #[.val (.long q0), .second, .val (.long q1), .second, .val (.long q2), .second, .val (.int p3), .val (.long v2), .second, .val (.int v7), .val (.ref b106), .val (.ref b115), .val (.ref b130), .val (.int v18)] [(.int (0 : Int32))])) t → Steps p.tables e below (T185.setTop (mkF m 170 #[.val (.long q0), .second, .val (.long q1), .second, .val (.long q2), .second, .val (.int p3), .val (.long v2), .second, .val (.int v7), .val (.ref b106), .val (.ref b115), .val (.ref b130), .val (.int v18)] [(.int v18)])) t := by
            intro t kt
            show Steps p.tables e below (T185.setTop (mkF m 170 #[.val (.long q0), .second, .val (.long q1), .second, .val (.long q2), .second, .val (.int p3), .val (.long v2), .second, .val (.int v7), .val (.ref b106), .val (.ref b115), .val (.ref b130), .val (.int v18)] [(.int v18)])) _
            refine XS.ifYes X185.here hx rfl (pc0 := 170) (pc' := 196) rfl (hb hby at_170) rfl ((if0 _ _).trans (teq hc170_20).1) (by decide) (by decide) ?_
            show Steps p.tables e below (T185.setTop (mkF m 196 #[.val (.long q0), .second, .val (.long q1), .second, .val (.long q2), .second, .val (.int p3), .val (.long v2), .second, .val (.int v7), .val (.ref b106), .val (.ref b115), .val (.ref b130), .val (.int v18)] [])) _
            refine XS.iconst X185.here hx rfl (hb hby at_196) ?_
            exact kt
          refine own_arm hgo195 ?_
          exact own_armEnd X185 N185 (rfl : T185.heap = T185.heap) (by rw [hv25.trans (if_pos hc170_20)])
        · obtain ⟨cq196, kq196, q196a, q196b, q196c⟩ := isOf hZ (rfl : T185.heap = T185.heap) F185_0
          obtain ⟨_, _, ⟨T196, L196, k196, n196⟩, -, X196, ⟨Lc196, hQ196, l196, y196, z196⟩, st196⟩ := X185.virtualBack hx (y := (⟨"com/example/upper_falls/upperfalls/KeyPositions", "hasNext", "()Z"⟩ : MethodName)) (z := (⟨"com/example/upper_falls/upperfalls/KeyPositions", "hasNext", "()Z"⟩ : MethodName)) hown (mvT hZ (hw _ (List.mem_of_getElem? (i := 74) rfl))) (mvT hZ (hw _ (List.mem_of_getElem? (i := 75) rfl))) (notFace_of_selects (args := #[]) (mvT hZ (hw _ (List.mem_of_getElem? (i := 77) rfl)))) (mvT hZ (hw _ (List.mem_of_getElem? (i := 77) rfl))) (mvT hZ (hw _ (List.mem_of_getElem? (i := 76) rfl))) (by decide) (backOf (W := 0) (rm12 l Z a0 hw [] b130 (2 : Int32) v7 (T185.heap) n0 Z193 F185_1f F185_2) hZ (hw _ (List.mem_of_getElem? (i := 78) rfl)) (hw _ (List.mem_of_getElem? (i := 36) rfl)) (by decide) (by decide)) q196a q196c (g := (mkF m 175 #[.val (.long q0), .second, .val (.long q1), .second, .val (.long q2), .second, .val (.int p3), .val (.long v2), .second, .val (.int v7), .val (.ref b106), .val (.ref b115), .val (.ref b130), .val (.int v18)] [(.ref b130)])) rfl (by rw [hml]; rfl) (Steps.refl _) (argsL := []) (rest := []) (lenOf pd13 rfl) rfl (by show 2 * 0 + _ ≤ _; exact Nat.le_of_eq rfl) (hb hby at_175) (fun _ _ => ⟨rfl, (rfl : T185.heap = T185.heap), (by decide : 3 + 0 ≤ _), (by decide : 9 + 0 ≤ _)⟩)
          dsimp only [Pt.U, Pt.locs, Pt.cells, Pt.slots] at X196 l196 y196 z196 st196 hQ196
          subst l196 y196 z196
          obtain ⟨rfl, N196q, e196⟩ := hQ196
          have N196 := Fr.app N185 N196q
          obtain ⟨T199, lc199, X199, N199, e199, st199⟩ := own_mrg (n0 := n0) (h := T185.heap) (g := (mkF m 181 #[.val (.long q0), .second, .val (.long q1), .second, .val (.long q2), .second, .val (.int p3), .val (.long v2), .second, .val (.int v7), .val (.ref b106), .val (.ref b115), .val (.ref b130), .val (.int v18)] [(.int v7), (.int (2 : Int32)), (.int (own_r12 (2 : Int32) v7))])) (g' := (mkF m 189 #[.val (.long q0), .second, .val (.long q1), .second, .val (.long q2), .second, .val (.int p3), .val (.long v2), .second, .val (.int v7), .val (.ref b106), .val (.ref b115), .val (.ref b130), .val (.int v18)] [(.int v22), (.int (own_r12 (2 : Int32) v7))])) X196 (by
            by_cases hc181_21 : (2 : Int32) < v7
            · have hgo197 : ∀ t, Steps p.tables e below (T196.setTop (mkF m 189 #[.val (.long q0), .second, .val (.long q1), .second, .val (.long q2), .second, .val (.int p3), .val (.long v2), .second, .val (.int v7), .val (.ref b106), .val (.ref b115), .val (.ref b130), .val (.int v18)] [(.int (1 : Int32)), (.int (own_r12 (2 : Int32) v7))])) t → Steps p.tables e below (T196.setTop (mkF m 181 #[.val (.long q0), .second, .val (.long q1), .second, .val (.long q2), .second, .val (.int p3), .val (.long v2), .second, .val (.int v7), .val (.ref b106), .val (.ref b115), .val (.ref b130), .val (.int v18)] [(.int v7), (.int (2 : Int32)), (.int (own_r12 (2 : Int32) v7))])) t := by
                intro t kt
                show Steps p.tables e below (T196.setTop (mkF m 181 #[.val (.long q0), .second, .val (.long q1), .second, .val (.long q2), .second, .val (.int p3), .val (.long v2), .second, .val (.int v7), .val (.ref b106), .val (.ref b115), .val (.ref b130), .val (.int v18)] [(.int v7), (.int (2 : Int32)), (.int (own_r12 (2 : Int32) v7))])) _
                refine XS.icmpNo X196.here hx rfl (hb hby at_181) rfl (tlt hc181_21).2.1 ?_
                show Steps p.tables e below (T196.setTop (mkF m 184 #[.val (.long q0), .second, .val (.long q1), .second, .val (.long q2), .second, .val (.int p3), .val (.long v2), .second, .val (.int v7), .val (.ref b106), .val (.ref b115), .val (.ref b130), .val (.int v18)] [(.int (own_r12 (2 : Int32) v7))])) _
                refine XS.iconst X196.here hx rfl (hb hby at_184) ?_
                show Steps p.tables e below (T196.setTop (mkF m 185 #[.val (.long q0), .second, .val (.long q1), .second, .val (.long q2), .second, .val (.int p3), .val (.long v2), .second, .val (.int v7), .val (.ref b106), .val (.ref b115), .val (.ref b130), .val (.int v18)] [(.int (1 : Int32)), (.int (own_r12 (2 : Int32) v7))])) _
                refine XS.goto X196.here hx rfl (pc0 := 185) (pc' := 189) rfl (hb hby at_185) (by decide) (by decide) ?_
                exact kt
              refine own_arm hgo197 ?_
              exact own_armEnd X196 N196 e196 (by rw [hv22.trans (if_pos hc181_21)])
            · have hgo198 : ∀ t, Steps p.tables e below (T196.setTop (mkF m 189 #[.val (.long q0), .second, .val (.long q1), .second, .val (.long q2), .second, .val (.int p3), .val (.long v2), .second, .val (.int v7), .val (.ref b106), .val (.ref b115), .val (.ref b130), .val (.int v18)] [(.int (0 : Int32)), (.int (own_r12 (2 : Int32) v7))])) t → Steps p.tables e below (T196.setTop (mkF m 181 #[.val (.long q0), .second, .val (.long q1), .second, .val (.long q2), .second, .val (.int p3), .val (.long v2), .second, .val (.int v7), .val (.ref b106), .val (.ref b115), .val (.ref b130), .val (.int v18)] [(.int v7), (.int (2 : Int32)), (.int (own_r12 (2 : Int32) v7))])) t := by
                intro t kt
                show Steps p.tables e below (T196.setTop (mkF m 181 #[.val (.long q0), .second, .val (.long q1), .second, .val (.long q2), .second, .val (.int p3), .val (.long v2), .second, .val (.int v7), .val (.ref b106), .val (.ref b115), .val (.ref b130), .val (.int v18)] [(.int v7), (.int (2 : Int32)), (.int (own_r12 (2 : Int32) v7))])) _
                refine XS.icmpYes X196.here hx rfl (pc0 := 181) (pc' := 188) rfl (hb hby at_181) rfl (flt hc181_21).2.1 (by decide) (by decide) ?_
                show Steps p.tables e below (T196.setTop (mkF m 188 #[.val (.long q0), .second, .val (.long q1), .second, .val (.long q2), .second, .val (.int p3), .val (.long v2), .second, .val (.int v7), .val (.ref b106), .val (.ref b115), .val (.ref b130), .val (.int v18)] [(.int (own_r12 (2 : Int32) v7))])) _
                refine XS.iconst X196.here hx rfl (hb hby at_188) ?_
                exact kt
              refine own_arm hgo198 ?_
              exact own_armEnd X196 N196 e196 (by rw [hv22.trans (if_neg hc181_21)]))
          obtain ⟨T202, lc202, X202, N202, e202, st202⟩ := own_mrg (n0 := n0) (h := T185.heap) (g := (mkF m 189 #[.val (.long q0), .second, .val (.long q1), .second, .val (.long q2), .second, .val (.int p3), .val (.long v2), .second, .val (.int v7), .val (.ref b106), .val (.ref b115), .val (.ref b130), .val (.int v18)] [(.int v22), (.int (own_r12 (2 : Int32) v7))])) (g' := (mkF m 197 #[.val (.long q0), .second, .val (.long q1), .second, .val (.long q2), .second, .val (.int p3), .val (.long v2), .second, .val (.int v7), .val (.ref b106), .val (.ref b115), .val (.ref b130), .val (.int v18)] [(.int v24)])) X199 (by
            by_cases hc189_23 : (own_r12 (2 : Int32) v7) = v22
            · have hgo200 : ∀ t, Steps p.tables e below (T199.setTop (mkF m 197 #[.val (.long q0), .second, .val (.long q1), .second, .val (.long q2), .second, .val (.int p3), .val (.long v2), .second, .val (.int v7), .val (.ref b106), .val (.ref b115), .val (.ref b130), .val (.int v18)] [(.int (1 : Int32))])) t → Steps p.tables e below (T199.setTop (mkF m 189 #[.val (.long q0), .second, .val (.long q1), .second, .val (.long q2), .second, .val (.int p3), .val (.long v2), .second, .val (.int v7), .val (.ref b106), .val (.ref b115), .val (.ref b130), .val (.int v18)] [(.int v22), (.int (own_r12 (2 : Int32) v7))])) t := by
                intro t kt
                show Steps p.tables e below (T199.setTop (mkF m 189 #[.val (.long q0), .second, .val (.long q1), .second, .val (.long q2), .second, .val (.int p3), .val (.long v2), .second, .val (.int v7), .val (.ref b106), .val (.ref b115), .val (.ref b130), .val (.int v18)] [(.int v22), (.int (own_r12 (2 : Int32) v7))])) _
                refine XS.icmpNo X199.here hx rfl (hb hby at_189) rfl (teq hc189_23).2 ?_
                show Steps p.tables e below (T199.setTop (mkF m 192 #[.val (.long q0), .second, .val (.long q1), .second, .val (.long q2), .second, .val (.int p3), .val (.long v2), .second, .val (.int v7), .val (.ref b106), .val (.ref b115), .val (.ref b130), .val (.int v18)] [])) _
                refine XS.iconst X199.here hx rfl (hb hby at_192) ?_
                show Steps p.tables e below (T199.setTop (mkF m 193 #[.val (.long q0), .second, .val (.long q1), .second, .val (.long q2), .second, .val (.int p3), .val (.long v2), .second, .val (.int v7), .val (.ref b106), .val (.ref b115), .val (.ref b130), .val (.int v18)] [(.int (1 : Int32))])) _
                refine XS.goto X199.here hx rfl (pc0 := 193) (pc' := 197) rfl (hb hby at_193) (by decide) (by decide) ?_
                exact kt
              refine own_arm hgo200 ?_
              exact own_armEnd X199 N199 e199 (by rw [hv24.trans (if_pos hc189_23)])
            · have hgo201 : ∀ t, Steps p.tables e below (T199.setTop (mkF m 197 #[.val (.long q0), .second, .val (.long q1), .second, .val (.long q2), .second, .val (.int p3), .val (.long v2), .second, .val (.int v7), .val (.ref b106), .val (.ref b115), .val (.ref b130), .val (.int v18)] [(.int (0 : Int32))])) t → Steps p.tables e below (T199.setTop (mkF m 189 #[.val (.long q0), .second, .val (.long q1), .second, .val (.long q2), .second, .val (.int p3), .val (.long v2), .second, .val (.int v7), .val (.ref b106), .val (.ref b115), .val (.ref b130), .val (.int v18)] [(.int v22), (.int (own_r12 (2 : Int32) v7))])) t := by
                intro t kt
                show Steps p.tables e below (T199.setTop (mkF m 189 #[.val (.long q0), .second, .val (.long q1), .second, .val (.long q2), .second, .val (.int p3), .val (.long v2), .second, .val (.int v7), .val (.ref b106), .val (.ref b115), .val (.ref b130), .val (.int v18)] [(.int v22), (.int (own_r12 (2 : Int32) v7))])) _
                refine XS.icmpYes X199.here hx rfl (pc0 := 189) (pc' := 196) rfl (hb hby at_189) rfl (feq hc189_23).2 (by decide) (by decide) ?_
                show Steps p.tables e below (T199.setTop (mkF m 196 #[.val (.long q0), .second, .val (.long q1), .second, .val (.long q2), .second, .val (.int p3), .val (.long v2), .second, .val (.int v7), .val (.ref b106), .val (.ref b115), .val (.ref b130), .val (.int v18)] [])) _
                refine XS.iconst X199.here hx rfl (hb hby at_196) ?_
                exact kt
              refine own_arm hgo201 ?_
              exact own_armEnd X199 N199 e199 (by rw [hv24.trans (if_neg hc189_23)]))
          have hgo203 : ∀ t, Steps p.tables e below (T202.setTop (mkF m 197 #[.val (.long q0), .second, .val (.long q1), .second, .val (.long q2), .second, .val (.int p3), .val (.long v2), .second, .val (.int v7), .val (.ref b106), .val (.ref b115), .val (.ref b130), .val (.int v18)] [(.int v24)])) t → Steps p.tables e below (T185.setTop (mkF m 170 #[.val (.long q0), .second, .val (.long q1), .second, .val (.long q2), .second, .val (.int p3), .val (.long v2), .second, .val (.int v7), .val (.ref b106), .val (.ref b115), .val (.ref b130), .val (.int v18)] [(.int v18)])) t := by
            intro t kt
            show Steps p.tables e below (T185.setTop (mkF m 170 #[.val (.long q0), .second, .val (.long q1), .second, .val (.long q2), .second, .val (.int p3), .val (.long v2), .second, .val (.int v7), .val (.ref b106), .val (.ref b115), .val (.ref b130), .val (.int v18)] [(.int v18)])) _
            refine XS.ifNo X185.here hx rfl (hb hby at_170) rfl ((if0 _ _).trans (feq hc170_20).1) ?_
            show Steps p.tables e below (T185.setTop (mkF m 173 #[.val (.long q0), .second, .val (.long q1), .second, .val (.long q2), .second, .val (.int p3), .val (.long v2), .second, .val (.int v7), .val (.ref b106), .val (.ref b115), .val (.ref b130), .val (.int v18)] [])) _
            refine XS.aload X185.here hx rfl (hb hby at_173) rfl rfl ?_
            show Steps p.tables e below (T185.setTop (mkF m 175 #[.val (.long q0), .second, .val (.long q1), .second, .val (.long q2), .second, .val (.int p3), .val (.long v2), .second, .val (.int v7), .val (.ref b106), .val (.ref b115), .val (.ref b130), .val (.int v18)] [(.ref b130)])) _
            refine st196.trans ?_
            show Steps p.tables e below (T196.setTop (mkF m 178 #[.val (.long q0), .second, .val (.long q1), .second, .val (.long q2), .second, .val (.int p3), .val (.long v2), .second, .val (.int v7), .val (.ref b106), .val (.ref b115), .val (.ref b130), .val (.int v18)] [(.int (own_r12 (2 : Int32) v7))])) _
            refine XS.iconst X196.here hx rfl (hb hby at_178) ?_
            show Steps p.tables e below (T196.setTop (mkF m 179 #[.val (.long q0), .second, .val (.long q1), .second, .val (.long q2), .second, .val (.int p3), .val (.long v2), .second, .val (.int v7), .val (.ref b106), .val (.ref b115), .val (.ref b130), .val (.int v18)] [(.int (2 : Int32)), (.int (own_r12 (2 : Int32) v7))])) _
            refine XS.iload X196.here hx rfl (hb hby at_179) rfl ?_
            show Steps p.tables e below (T196.setTop (mkF m 181 #[.val (.long q0), .second, .val (.long q1), .second, .val (.long q2), .second, .val (.int p3), .val (.long v2), .second, .val (.int v7), .val (.ref b106), .val (.ref b115), .val (.ref b130), .val (.int v18)] [(.int v7), (.int (2 : Int32)), (.int (own_r12 (2 : Int32) v7))])) _
            refine st199 _ ?_
            show Steps p.tables e below (T199.setTop (mkF m 189 #[.val (.long q0), .second, .val (.long q1), .second, .val (.long q2), .second, .val (.int p3), .val (.long v2), .second, .val (.int v7), .val (.ref b106), .val (.ref b115), .val (.ref b130), .val (.int v18)] [(.int v22), (.int (own_r12 (2 : Int32) v7))])) _
            refine st202 _ ?_
            exact kt
          refine own_arm hgo203 ?_
          exact own_armEnd X202 N202 e202 (by rw [hv25.trans (if_neg hc170_20)]))
      have hgo206 : ∀ t, Steps p.tables e below (T204.setTop (mkF m 202 #[.val (.long q0), .second, .val (.long q1), .second, .val (.long q2), .second, .val (.int p3), .val (.long v2), .second, .val (.int v7), .val (.ref b106), .val (.ref b115), .val (.ref b130), .val (.int v25)] [(.int v7), (.int (2 : Int32))])) t → Steps p.tables e below (T182.setTop (mkF m 159 #[.val (.long q0), .second, .val (.long q1), .second, .val (.long q2), .second, .val (.int p3), .val (.long v2), .second, .val (.int v7), .val (.ref b106), .val (.ref b115), .val (.ref b130), .val (.int v18)] [(.int v7), (.int (1 : Int32))])) t := by
        intro t kt
        show Steps p.tables e below (T182.setTop (mkF m 159 #[.val (.long q0), .second, .val (.long q1), .second, .val (.long q2), .second, .val (.int p3), .val (.long v2), .second, .val (.int v7), .val (.ref b106), .val (.ref b115), .val (.ref b130), .val (.int v18)] [(.int v7), (.int (1 : Int32))])) _
        refine XS.icmpNo X182.here hx rfl (hb hby at_159) rfl (tlt hc159_19).2.1 ?_
        show Steps p.tables e below (T182.setTop (mkF m 162 #[.val (.long q0), .second, .val (.long q1), .second, .val (.long q2), .second, .val (.int p3), .val (.long v2), .second, .val (.int v7), .val (.ref b106), .val (.ref b115), .val (.ref b130), .val (.int v18)] [])) _
        refine XS.aload X182.here hx rfl (hb hby at_162) rfl rfl ?_
        show Steps p.tables e below (T182.setTop (mkF m 164 #[.val (.long q0), .second, .val (.long q1), .second, .val (.long q2), .second, .val (.int p3), .val (.long v2), .second, .val (.int v7), .val (.ref b106), .val (.ref b115), .val (.ref b130), .val (.int v18)] [(.ref b130)])) _
        refine st185.trans ?_
        show Steps p.tables e below (T185.setTop (mkF m 167 #[.val (.long q0), .second, .val (.long q1), .second, .val (.long q2), .second, .val (.int p3), .val (.long v2), .second, .val (.int v7), .val (.ref b106), .val (.ref b115), .val (.ref b130), .val (.int v18)] [(.long (own_r13 (1 : Int32) v2 b163_0 b163_1))])) _
        jvm_step X185.here [X185.here.top, hx, (hb hby at_167), Value.category]
        show Steps p.tables e below (T185.setTop (mkF m 168 #[.val (.long q0), .second, .val (.long q1), .second, .val (.long q2), .second, .val (.int p3), .val (.long v2), .second, .val (.int v7), .val (.ref b106), .val (.ref b115), .val (.ref b130), .val (.int v18)] [])) _
        refine XS.iload X185.here hx rfl (hb hby at_168) rfl ?_
        show Steps p.tables e below (T185.setTop (mkF m 170 #[.val (.long q0), .second, .val (.long q1), .second, .val (.long q2), .second, .val (.int p3), .val (.long v2), .second, .val (.int v7), .val (.ref b106), .val (.ref b115), .val (.ref b130), .val (.int v18)] [(.int v18)])) _
        refine st204 _ ?_
        show Steps p.tables e below (T204.setTop (mkF m 197 #[.val (.long q0), .second, .val (.long q1), .second, .val (.long q2), .second, .val (.int p3), .val (.long v2), .second, .val (.int v7), .val (.ref b106), .val (.ref b115), .val (.ref b130), .val (.int v18)] [(.int v25)])) _
        refine XS.istore X204.here hx rfl (hb hby at_197) rfl (l' := #[.val (.long q0), .second, .val (.long q1), .second, .val (.long q2), .second, .val (.int p3), .val (.long v2), .second, .val (.int v7), .val (.ref b106), .val (.ref b115), .val (.ref b130), .val (.int v25)]) rfl ?_
        show Steps p.tables e below (T204.setTop (mkF m 199 #[.val (.long q0), .second, .val (.long q1), .second, .val (.long q2), .second, .val (.int p3), .val (.long v2), .second, .val (.int v7), .val (.ref b106), .val (.ref b115), .val (.ref b130), .val (.int v25)] [])) _
        refine XS.iconst X204.here hx rfl (hb hby at_199) ?_
        show Steps p.tables e below (T204.setTop (mkF m 200 #[.val (.long q0), .second, .val (.long q1), .second, .val (.long q2), .second, .val (.int p3), .val (.long v2), .second, .val (.int v7), .val (.ref b106), .val (.ref b115), .val (.ref b130), .val (.int v25)] [(.int (2 : Int32))])) _
        refine XS.iload X204.here hx rfl (hb hby at_200) rfl ?_
        exact kt
      refine own_go hgo206 ?_
      by_cases hc202_26 : (2 : Int32) < v7
      · obtain ⟨cq207, kq207, q207a, q207b, q207c⟩ := isOf hZ e204 F185_0
        obtain ⟨_, _, ⟨T207, L207, k207, n207⟩, -, X207, ⟨Lc207, hQ207, l207, y207, z207⟩, st207⟩ := X204.virtualBack hx (y := (⟨"com/example/upper_falls/upperfalls/KeyPositions", "next", "()J"⟩ : MethodName)) (z := (⟨"com/example/upper_falls/upperfalls/KeyPositions", "next", "()J"⟩ : MethodName)) hown (mvT hZ (hw _ (List.mem_of_getElem? (i := 81) rfl))) (mvT hZ (hw _ (List.mem_of_getElem? (i := 82) rfl))) (notFace_of_selects (args := #[]) (mvT hZ (hw _ (List.mem_of_getElem? (i := 84) rfl)))) (mvT hZ (hw _ (List.mem_of_getElem? (i := 84) rfl))) (mvT hZ (hw _ (List.mem_of_getElem? (i := 83) rfl))) (by decide) (backOf (W := 0) (rm13 l Z a0 hw [] b130 (2 : Int32) v7 v2 b185_0 b185_1 (T185.heap) n0 Z193 F185_1f F185_2 F185_3 (own_ltne hc202_26 : ¬ ((2 : Int32) = v7)) (own_nz hv2 : ¬ (v2 = (0 : Int64))) F185_4 F185_5 F185_0 g_b130) hZ (hw _ (List.mem_of_getElem? (i := 85) rfl)) (hw _ (List.mem_of_getElem? (i := 36) rfl)) (by decide) (by decide)) q207a q207c (g := (mkF m 207 #[.val (.long q0), .second, .val (.long q1), .second, .val (.long q2), .second, .val (.int p3), .val (.long v2), .second, .val (.int v7), .val (.ref b106), .val (.ref b115), .val (.ref b130), .val (.int v25)] [(.ref b130)])) rfl (by rw [hml]; rfl) (Steps.refl _) (argsL := []) (rest := []) (lenOf pd5 rfl) rfl (by show 2 * 0 + _ ≤ _; exact Nat.le_of_eq rfl) (hb hby at_207) (fun _ _ => ⟨rfl, e204, (by decide : 3 + 0 ≤ _), (by decide : 9 + 0 ≤ _)⟩)
        dsimp only [Pt.U, Pt.locs, Pt.cells, Pt.slots] at X207 l207 y207 z207 st207 hQ207
        subst l207 y207 z207
        obtain ⟨b207_0, b207_1, rfl, N207q, K207q, F207_0, F207_1, F207_2, F207_3, F207_4, F207_5⟩ := hQ207
        have F208 := F186.keep K207q
        have F209 := F187.keep K207q (ninS ne_b106_b130 nin0)
        have F210 := F188.keep K207q (ninS ne_b106_b130 nin0)
        have F211 := F189.keep K207q
        have F212 := F190.keep K207q (ninS ne_b115_b130 nin0)
        have F213 := F191.keep K207q (ninS ne_b115_b130 nin0)
        have F214 := F185_0.keep K207q
        have Z215 : n0 ≤ T207.heap.size := Nat.le_trans Z193 K207q.1
        have K216 : Keep h0 T207.heap [] := K194.trans K207q (allS (Or.inr sz_b130) all0)
        have F207_1f : Fld Z T207.heap b130 "com/example/upper_falls/upperfalls/KeyPositions" "index" "I" (.int (3 : Int32)) := F207_1
        have N207 := Fr.app N204 N207q
        obtain ⟨v29, hv29⟩ : ∃ z : Int32, z = (if (3 : Int32) < v7 then (1 : Int32) else (0 : Int32)) := ⟨_, rfl⟩
        obtain ⟨v31, hv31⟩ : ∃ z : Int32, z = (if (own_r12 (3 : Int32) v7) = v29 then (1 : Int32) else (0 : Int32)) := ⟨_, rfl⟩
        obtain ⟨v32, hv32⟩ : ∃ z : Int32, z = (if v25 = (0 : Int32) then (0 : Int32) else v31) := ⟨_, rfl⟩
        obtain ⟨T226, lc226, X226, N226, e226, st226⟩ := own_mrg (n0 := n0) (h := T207.heap) (g := (mkF m 213 #[.val (.long q0), .second, .val (.long q1), .second, .val (.long q2), .second, .val (.int p3), .val (.long v2), .second, .val (.int v7), .val (.ref b106), .val (.ref b115), .val (.ref b130), .val (.int v25)] [(.int v25)])) (g' := (mkF m 240 #[.val (.long q0), .second, .val (.long q1), .second, .val (.long q2), .second, .val (.int p3), .val (.long v2), .second, .val (.int v7), .val (.ref b106), .val (.ref b115), .val (.ref b130), .val (.int v25)] [(.int v32)])) X207 (by
          by_cases hc213_27 : v25 = (0 : Int32)
          · have hgo217 : ∀ t, Steps p.tables e below (T207.setTop (mkF m 240 #[.val (.long q0), .second, .val (.long q1), .second, .val (.long q2), .second, .val (.int p3), .val (.long v2), .second, .val (.int v7), .val (.ref b106), .val (.ref b115), .val (.ref b130), .val (.int v25)] [(.int (0 : Int32))])) t → Steps p.tables e below (T207.setTop (mkF m 213 #[.val (.long q0), .second, .val (.long q1), .second, .val (.long q2), .second, .val (.int p3), .val (.long v2), .second, .val (.int v7), .val (.ref b106), .val (.ref b115), .val (.ref b130), .val (.int v25)] [(.int v25)])) t := by
              intro t kt
              show Steps p.tables e below (T207.setTop (mkF m 213 #[.val (.long q0), .second, .val (.long q1), .second, .val (.long q2), .second, .val (.int p3), .val (.long v2), .second, .val (.int v7), .val (.ref b106), .val (.ref b115), .val (.ref b130), .val (.int v25)] [(.int v25)])) _
              refine XS.ifYes X207.here hx rfl (pc0 := 213) (pc' := 239) rfl (hb hby at_213) rfl ((if0 _ _).trans (teq hc213_27).1) (by decide) (by decide) ?_
              show Steps p.tables e below (T207.setTop (mkF m 239 #[.val (.long q0), .second, .val (.long q1), .second, .val (.long q2), .second, .val (.int p3), .val (.long v2), .second, .val (.int v7), .val (.ref b106), .val (.ref b115), .val (.ref b130), .val (.int v25)] [])) _
              refine XS.iconst X207.here hx rfl (hb hby at_239) ?_
              exact kt
            refine own_arm hgo217 ?_
            exact own_armEnd X207 N207 (rfl : T207.heap = T207.heap) (by rw [hv32.trans (if_pos hc213_27)])
          · obtain ⟨cq218, kq218, q218a, q218b, q218c⟩ := isOf hZ (rfl : T207.heap = T207.heap) F207_0
            obtain ⟨_, _, ⟨T218, L218, k218, n218⟩, -, X218, ⟨Lc218, hQ218, l218, y218, z218⟩, st218⟩ := X207.virtualBack hx (y := (⟨"com/example/upper_falls/upperfalls/KeyPositions", "hasNext", "()Z"⟩ : MethodName)) (z := (⟨"com/example/upper_falls/upperfalls/KeyPositions", "hasNext", "()Z"⟩ : MethodName)) hown (mvT hZ (hw _ (List.mem_of_getElem? (i := 74) rfl))) (mvT hZ (hw _ (List.mem_of_getElem? (i := 75) rfl))) (notFace_of_selects (args := #[]) (mvT hZ (hw _ (List.mem_of_getElem? (i := 77) rfl)))) (mvT hZ (hw _ (List.mem_of_getElem? (i := 77) rfl))) (mvT hZ (hw _ (List.mem_of_getElem? (i := 76) rfl))) (by decide) (backOf (W := 0) (rm12 l Z a0 hw [] b130 (3 : Int32) v7 (T207.heap) n0 Z215 F207_1f F207_2) hZ (hw _ (List.mem_of_getElem? (i := 78) rfl)) (hw _ (List.mem_of_getElem? (i := 36) rfl)) (by decide) (by decide)) q218a q218c (g := (mkF m 218 #[.val (.long q0), .second, .val (.long q1), .second, .val (.long q2), .second, .val (.int p3), .val (.long v2), .second, .val (.int v7), .val (.ref b106), .val (.ref b115), .val (.ref b130), .val (.int v25)] [(.ref b130)])) rfl (by rw [hml]; rfl) (Steps.refl _) (argsL := []) (rest := []) (lenOf pd13 rfl) rfl (by show 2 * 0 + _ ≤ _; exact Nat.le_of_eq rfl) (hb hby at_218) (fun _ _ => ⟨rfl, (rfl : T207.heap = T207.heap), (by decide : 3 + 0 ≤ _), (by decide : 9 + 0 ≤ _)⟩)
            dsimp only [Pt.U, Pt.locs, Pt.cells, Pt.slots] at X218 l218 y218 z218 st218 hQ218
            subst l218 y218 z218
            obtain ⟨rfl, N218q, e218⟩ := hQ218
            have N218 := Fr.app N207 N218q
            obtain ⟨T221, lc221, X221, N221, e221, st221⟩ := own_mrg (n0 := n0) (h := T207.heap) (g := (mkF m 224 #[.val (.long q0), .second, .val (.long q1), .second, .val (.long q2), .second, .val (.int p3), .val (.long v2), .second, .val (.int v7), .val (.ref b106), .val (.ref b115), .val (.ref b130), .val (.int v25)] [(.int v7), (.int (3 : Int32)), (.int (own_r12 (3 : Int32) v7))])) (g' := (mkF m 232 #[.val (.long q0), .second, .val (.long q1), .second, .val (.long q2), .second, .val (.int p3), .val (.long v2), .second, .val (.int v7), .val (.ref b106), .val (.ref b115), .val (.ref b130), .val (.int v25)] [(.int v29), (.int (own_r12 (3 : Int32) v7))])) X218 (by
              by_cases hc224_28 : (3 : Int32) < v7
              · have hgo219 : ∀ t, Steps p.tables e below (T218.setTop (mkF m 232 #[.val (.long q0), .second, .val (.long q1), .second, .val (.long q2), .second, .val (.int p3), .val (.long v2), .second, .val (.int v7), .val (.ref b106), .val (.ref b115), .val (.ref b130), .val (.int v25)] [(.int (1 : Int32)), (.int (own_r12 (3 : Int32) v7))])) t → Steps p.tables e below (T218.setTop (mkF m 224 #[.val (.long q0), .second, .val (.long q1), .second, .val (.long q2), .second, .val (.int p3), .val (.long v2), .second, .val (.int v7), .val (.ref b106), .val (.ref b115), .val (.ref b130), .val (.int v25)] [(.int v7), (.int (3 : Int32)), (.int (own_r12 (3 : Int32) v7))])) t := by
                  intro t kt
                  show Steps p.tables e below (T218.setTop (mkF m 224 #[.val (.long q0), .second, .val (.long q1), .second, .val (.long q2), .second, .val (.int p3), .val (.long v2), .second, .val (.int v7), .val (.ref b106), .val (.ref b115), .val (.ref b130), .val (.int v25)] [(.int v7), (.int (3 : Int32)), (.int (own_r12 (3 : Int32) v7))])) _
                  refine XS.icmpNo X218.here hx rfl (hb hby at_224) rfl (tlt hc224_28).2.1 ?_
                  show Steps p.tables e below (T218.setTop (mkF m 227 #[.val (.long q0), .second, .val (.long q1), .second, .val (.long q2), .second, .val (.int p3), .val (.long v2), .second, .val (.int v7), .val (.ref b106), .val (.ref b115), .val (.ref b130), .val (.int v25)] [(.int (own_r12 (3 : Int32) v7))])) _
                  refine XS.iconst X218.here hx rfl (hb hby at_227) ?_
                  show Steps p.tables e below (T218.setTop (mkF m 228 #[.val (.long q0), .second, .val (.long q1), .second, .val (.long q2), .second, .val (.int p3), .val (.long v2), .second, .val (.int v7), .val (.ref b106), .val (.ref b115), .val (.ref b130), .val (.int v25)] [(.int (1 : Int32)), (.int (own_r12 (3 : Int32) v7))])) _
                  refine XS.goto X218.here hx rfl (pc0 := 228) (pc' := 232) rfl (hb hby at_228) (by decide) (by decide) ?_
                  exact kt
                refine own_arm hgo219 ?_
                exact own_armEnd X218 N218 e218 (by rw [hv29.trans (if_pos hc224_28)])
              · have hgo220 : ∀ t, Steps p.tables e below (T218.setTop (mkF m 232 #[.val (.long q0), .second, .val (.long q1), .second, .val (.long q2), .second, .val (.int p3), .val (.long v2), .second, .val (.int v7), .val (.ref b106), .val (.ref b115), .val (.ref b130), .val (.int v25)] [(.int (0 : Int32)), (.int (own_r12 (3 : Int32) v7))])) t → Steps p.tables e below (T218.setTop (mkF m 224 #[.val (.long q0), .second, .val (.long q1), .second, .val (.long q2), .second, .val (.int p3), .val (.long v2), .second, .val (.int v7), .val (.ref b106), .val (.ref b115), .val (.ref b130), .val (.int v25)] [(.int v7), (.int (3 : Int32)), (.int (own_r12 (3 : Int32) v7))])) t := by
                  intro t kt
                  show Steps p.tables e below (T218.setTop (mkF m 224 #[.val (.long q0), .second, .val (.long q1), .second, .val (.long q2), .second, .val (.int p3), .val (.long v2), .second, .val (.int v7), .val (.ref b106), .val (.ref b115), .val (.ref b130), .val (.int v25)] [(.int v7), (.int (3 : Int32)), (.int (own_r12 (3 : Int32) v7))])) _
                  refine XS.icmpYes X218.here hx rfl (pc0 := 224) (pc' := 231) rfl (hb hby at_224) rfl (flt hc224_28).2.1 (by decide) (by decide) ?_
                  show Steps p.tables e below (T218.setTop (mkF m 231 #[.val (.long q0), .second, .val (.long q1), .second, .val (.long q2), .second, .val (.int p3), .val (.long v2), .second, .val (.int v7), .val (.ref b106), .val (.ref b115), .val (.ref b130), .val (.int v25)] [(.int (own_r12 (3 : Int32) v7))])) _
                  refine XS.iconst X218.here hx rfl (hb hby at_231) ?_
                  exact kt
                refine own_arm hgo220 ?_
                exact own_armEnd X218 N218 e218 (by rw [hv29.trans (if_neg hc224_28)]))
            obtain ⟨T224, lc224, X224, N224, e224, st224⟩ := own_mrg (n0 := n0) (h := T207.heap) (g := (mkF m 232 #[.val (.long q0), .second, .val (.long q1), .second, .val (.long q2), .second, .val (.int p3), .val (.long v2), .second, .val (.int v7), .val (.ref b106), .val (.ref b115), .val (.ref b130), .val (.int v25)] [(.int v29), (.int (own_r12 (3 : Int32) v7))])) (g' := (mkF m 240 #[.val (.long q0), .second, .val (.long q1), .second, .val (.long q2), .second, .val (.int p3), .val (.long v2), .second, .val (.int v7), .val (.ref b106), .val (.ref b115), .val (.ref b130), .val (.int v25)] [(.int v31)])) X221 (by
              by_cases hc232_30 : (own_r12 (3 : Int32) v7) = v29
              · have hgo222 : ∀ t, Steps p.tables e below (T221.setTop (mkF m 240 #[.val (.long q0), .second, .val (.long q1), .second, .val (.long q2), .second, .val (.int p3), .val (.long v2), .second, .val (.int v7), .val (.ref b106), .val (.ref b115), .val (.ref b130), .val (.int v25)] [(.int (1 : Int32))])) t → Steps p.tables e below (T221.setTop (mkF m 232 #[.val (.long q0), .second, .val (.long q1), .second, .val (.long q2), .second, .val (.int p3), .val (.long v2), .second, .val (.int v7), .val (.ref b106), .val (.ref b115), .val (.ref b130), .val (.int v25)] [(.int v29), (.int (own_r12 (3 : Int32) v7))])) t := by
                  intro t kt
                  show Steps p.tables e below (T221.setTop (mkF m 232 #[.val (.long q0), .second, .val (.long q1), .second, .val (.long q2), .second, .val (.int p3), .val (.long v2), .second, .val (.int v7), .val (.ref b106), .val (.ref b115), .val (.ref b130), .val (.int v25)] [(.int v29), (.int (own_r12 (3 : Int32) v7))])) _
                  refine XS.icmpNo X221.here hx rfl (hb hby at_232) rfl (teq hc232_30).2 ?_
                  show Steps p.tables e below (T221.setTop (mkF m 235 #[.val (.long q0), .second, .val (.long q1), .second, .val (.long q2), .second, .val (.int p3), .val (.long v2), .second, .val (.int v7), .val (.ref b106), .val (.ref b115), .val (.ref b130), .val (.int v25)] [])) _
                  refine XS.iconst X221.here hx rfl (hb hby at_235) ?_
                  show Steps p.tables e below (T221.setTop (mkF m 236 #[.val (.long q0), .second, .val (.long q1), .second, .val (.long q2), .second, .val (.int p3), .val (.long v2), .second, .val (.int v7), .val (.ref b106), .val (.ref b115), .val (.ref b130), .val (.int v25)] [(.int (1 : Int32))])) _
                  refine XS.goto X221.here hx rfl (pc0 := 236) (pc' := 240) rfl (hb hby at_236) (by decide) (by decide) ?_
                  exact kt
                refine own_arm hgo222 ?_
                exact own_armEnd X221 N221 e221 (by rw [hv31.trans (if_pos hc232_30)])
              · have hgo223 : ∀ t, Steps p.tables e below (T221.setTop (mkF m 240 #[.val (.long q0), .second, .val (.long q1), .second, .val (.long q2), .second, .val (.int p3), .val (.long v2), .second, .val (.int v7), .val (.ref b106), .val (.ref b115), .val (.ref b130), .val (.int v25)] [(.int (0 : Int32))])) t → Steps p.tables e below (T221.setTop (mkF m 232 #[.val (.long q0), .second, .val (.long q1), .second, .val (.long q2), .second, .val (.int p3), .val (.long v2), .second, .val (.int v7), .val (.ref b106), .val (.ref b115), .val (.ref b130), .val (.int v25)] [(.int v29), (.int (own_r12 (3 : Int32) v7))])) t := by
                  intro t kt
                  show Steps p.tables e below (T221.setTop (mkF m 232 #[.val (.long q0), .second, .val (.long q1), .second, .val (.long q2), .second, .val (.int p3), .val (.long v2), .second, .val (.int v7), .val (.ref b106), .val (.ref b115), .val (.ref b130), .val (.int v25)] [(.int v29), (.int (own_r12 (3 : Int32) v7))])) _
                  refine XS.icmpYes X221.here hx rfl (pc0 := 232) (pc' := 239) rfl (hb hby at_232) rfl (feq hc232_30).2 (by decide) (by decide) ?_
                  show Steps p.tables e below (T221.setTop (mkF m 239 #[.val (.long q0), .second, .val (.long q1), .second, .val (.long q2), .second, .val (.int p3), .val (.long v2), .second, .val (.int v7), .val (.ref b106), .val (.ref b115), .val (.ref b130), .val (.int v25)] [])) _
                  refine XS.iconst X221.here hx rfl (hb hby at_239) ?_
                  exact kt
                refine own_arm hgo223 ?_
                exact own_armEnd X221 N221 e221 (by rw [hv31.trans (if_neg hc232_30)]))
            have hgo225 : ∀ t, Steps p.tables e below (T224.setTop (mkF m 240 #[.val (.long q0), .second, .val (.long q1), .second, .val (.long q2), .second, .val (.int p3), .val (.long v2), .second, .val (.int v7), .val (.ref b106), .val (.ref b115), .val (.ref b130), .val (.int v25)] [(.int v31)])) t → Steps p.tables e below (T207.setTop (mkF m 213 #[.val (.long q0), .second, .val (.long q1), .second, .val (.long q2), .second, .val (.int p3), .val (.long v2), .second, .val (.int v7), .val (.ref b106), .val (.ref b115), .val (.ref b130), .val (.int v25)] [(.int v25)])) t := by
              intro t kt
              show Steps p.tables e below (T207.setTop (mkF m 213 #[.val (.long q0), .second, .val (.long q1), .second, .val (.long q2), .second, .val (.int p3), .val (.long v2), .second, .val (.int v7), .val (.ref b106), .val (.ref b115), .val (.ref b130), .val (.int v25)] [(.int v25)])) _
              refine XS.ifNo X207.here hx rfl (hb hby at_213) rfl ((if0 _ _).trans (feq hc213_27).1) ?_
              show Steps p.tables e below (T207.setTop (mkF m 216 #[.val (.long q0), .second, .val (.long q1), .second, .val (.long q2), .second, .val (.int p3), .val (.long v2), .second, .val (.int v7), .val (.ref b106), .val (.ref b115), .val (.ref b130), .val (.int v25)] [])) _
              refine XS.aload X207.here hx rfl (hb hby at_216) rfl rfl ?_
              show Steps p.tables e below (T207.setTop (mkF m 218 #[.val (.long q0), .second, .val (.long q1), .second, .val (.long q2), .second, .val (.int p3), .val (.long v2), .second, .val (.int v7), .val (.ref b106), .val (.ref b115), .val (.ref b130), .val (.int v25)] [(.ref b130)])) _
              refine st218.trans ?_
              show Steps p.tables e below (T218.setTop (mkF m 221 #[.val (.long q0), .second, .val (.long q1), .second, .val (.long q2), .second, .val (.int p3), .val (.long v2), .second, .val (.int v7), .val (.ref b106), .val (.ref b115), .val (.ref b130), .val (.int v25)] [(.int (own_r12 (3 : Int32) v7))])) _
              refine XS.iconst X218.here hx rfl (hb hby at_221) ?_
              show Steps p.tables e below (T218.setTop (mkF m 222 #[.val (.long q0), .second, .val (.long q1), .second, .val (.long q2), .second, .val (.int p3), .val (.long v2), .second, .val (.int v7), .val (.ref b106), .val (.ref b115), .val (.ref b130), .val (.int v25)] [(.int (3 : Int32)), (.int (own_r12 (3 : Int32) v7))])) _
              refine XS.iload X218.here hx rfl (hb hby at_222) rfl ?_
              show Steps p.tables e below (T218.setTop (mkF m 224 #[.val (.long q0), .second, .val (.long q1), .second, .val (.long q2), .second, .val (.int p3), .val (.long v2), .second, .val (.int v7), .val (.ref b106), .val (.ref b115), .val (.ref b130), .val (.int v25)] [(.int v7), (.int (3 : Int32)), (.int (own_r12 (3 : Int32) v7))])) _
              refine st221 _ ?_
              show Steps p.tables e below (T221.setTop (mkF m 232 #[.val (.long q0), .second, .val (.long q1), .second, .val (.long q2), .second, .val (.int p3), .val (.long v2), .second, .val (.int v7), .val (.ref b106), .val (.ref b115), .val (.ref b130), .val (.int v25)] [(.int v29), (.int (own_r12 (3 : Int32) v7))])) _
              refine st224 _ ?_
              exact kt
            refine own_arm hgo225 ?_
            exact own_armEnd X224 N224 e224 (by rw [hv32.trans (if_neg hc213_27)]))
        have hgo228 : ∀ t, Steps p.tables e below (T226.setTop (mkF m 245 #[.val (.long q0), .second, .val (.long q1), .second, .val (.long q2), .second, .val (.int p3), .val (.long v2), .second, .val (.int v7), .val (.ref b106), .val (.ref b115), .val (.ref b130), .val (.int v32)] [(.int v7), (.int (3 : Int32))])) t → Steps p.tables e below (T204.setTop (mkF m 202 #[.val (.long q0), .second, .val (.long q1), .second, .val (.long q2), .second, .val (.int p3), .val (.long v2), .second, .val (.int v7), .val (.ref b106), .val (.ref b115), .val (.ref b130), .val (.int v25)] [(.int v7), (.int (2 : Int32))])) t := by
          intro t kt
          show Steps p.tables e below (T204.setTop (mkF m 202 #[.val (.long q0), .second, .val (.long q1), .second, .val (.long q2), .second, .val (.int p3), .val (.long v2), .second, .val (.int v7), .val (.ref b106), .val (.ref b115), .val (.ref b130), .val (.int v25)] [(.int v7), (.int (2 : Int32))])) _
          refine XS.icmpNo X204.here hx rfl (hb hby at_202) rfl (tlt hc202_26).2.1 ?_
          show Steps p.tables e below (T204.setTop (mkF m 205 #[.val (.long q0), .second, .val (.long q1), .second, .val (.long q2), .second, .val (.int p3), .val (.long v2), .second, .val (.int v7), .val (.ref b106), .val (.ref b115), .val (.ref b130), .val (.int v25)] [])) _
          refine XS.aload X204.here hx rfl (hb hby at_205) rfl rfl ?_
          show Steps p.tables e below (T204.setTop (mkF m 207 #[.val (.long q0), .second, .val (.long q1), .second, .val (.long q2), .second, .val (.int p3), .val (.long v2), .second, .val (.int v7), .val (.ref b106), .val (.ref b115), .val (.ref b130), .val (.int v25)] [(.ref b130)])) _
          refine st207.trans ?_
          show Steps p.tables e below (T207.setTop (mkF m 210 #[.val (.long q0), .second, .val (.long q1), .second, .val (.long q2), .second, .val (.int p3), .val (.long v2), .second, .val (.int v7), .val (.ref b106), .val (.ref b115), .val (.ref b130), .val (.int v25)] [(.long (own_r13 (2 : Int32) v2 b185_0 b185_1))])) _
          jvm_step X207.here [X207.here.top, hx, (hb hby at_210), Value.category]
          show Steps p.tables e below (T207.setTop (mkF m 211 #[.val (.long q0), .second, .val (.long q1), .second, .val (.long q2), .second, .val (.int p3), .val (.long v2), .second, .val (.int v7), .val (.ref b106), .val (.ref b115), .val (.ref b130), .val (.int v25)] [])) _
          refine XS.iload X207.here hx rfl (hb hby at_211) rfl ?_
          show Steps p.tables e below (T207.setTop (mkF m 213 #[.val (.long q0), .second, .val (.long q1), .second, .val (.long q2), .second, .val (.int p3), .val (.long v2), .second, .val (.int v7), .val (.ref b106), .val (.ref b115), .val (.ref b130), .val (.int v25)] [(.int v25)])) _
          refine st226 _ ?_
          show Steps p.tables e below (T226.setTop (mkF m 240 #[.val (.long q0), .second, .val (.long q1), .second, .val (.long q2), .second, .val (.int p3), .val (.long v2), .second, .val (.int v7), .val (.ref b106), .val (.ref b115), .val (.ref b130), .val (.int v25)] [(.int v32)])) _
          refine XS.istore X226.here hx rfl (hb hby at_240) rfl (l' := #[.val (.long q0), .second, .val (.long q1), .second, .val (.long q2), .second, .val (.int p3), .val (.long v2), .second, .val (.int v7), .val (.ref b106), .val (.ref b115), .val (.ref b130), .val (.int v32)]) rfl ?_
          show Steps p.tables e below (T226.setTop (mkF m 242 #[.val (.long q0), .second, .val (.long q1), .second, .val (.long q2), .second, .val (.int p3), .val (.long v2), .second, .val (.int v7), .val (.ref b106), .val (.ref b115), .val (.ref b130), .val (.int v32)] [])) _
          refine XS.iconst X226.here hx rfl (hb hby at_242) ?_
          show Steps p.tables e below (T226.setTop (mkF m 243 #[.val (.long q0), .second, .val (.long q1), .second, .val (.long q2), .second, .val (.int p3), .val (.long v2), .second, .val (.int v7), .val (.ref b106), .val (.ref b115), .val (.ref b130), .val (.int v32)] [(.int (3 : Int32))])) _
          refine XS.iload X226.here hx rfl (hb hby at_243) rfl ?_
          exact kt
        refine own_go hgo228 ?_
        by_cases hc245_33 : (3 : Int32) < v7
        · obtain ⟨cq229, kq229, q229a, q229b, q229c⟩ := isOf hZ e226 F207_0
          obtain ⟨_, _, ⟨T229, L229, k229, n229⟩, -, X229, ⟨Lc229, hQ229, l229, y229, z229⟩, st229⟩ := X226.virtualBack hx (y := (⟨"com/example/upper_falls/upperfalls/KeyPositions", "next", "()J"⟩ : MethodName)) (z := (⟨"com/example/upper_falls/upperfalls/KeyPositions", "next", "()J"⟩ : MethodName)) hown (mvT hZ (hw _ (List.mem_of_getElem? (i := 81) rfl))) (mvT hZ (hw _ (List.mem_of_getElem? (i := 82) rfl))) (notFace_of_selects (args := #[]) (mvT hZ (hw _ (List.mem_of_getElem? (i := 84) rfl)))) (mvT hZ (hw _ (List.mem_of_getElem? (i := 84) rfl))) (mvT hZ (hw _ (List.mem_of_getElem? (i := 83) rfl))) (by decide) (backOf (W := 0) (rm13 l Z a0 hw [] b130 (3 : Int32) v7 v2 b207_0 b207_1 (T207.heap) n0 Z215 F207_1f F207_2 F207_3 (own_ltne hc245_33 : ¬ ((3 : Int32) = v7)) (own_nz hv2 : ¬ (v2 = (0 : Int64))) F207_4 F207_5 F207_0 g_b130) hZ (hw _ (List.mem_of_getElem? (i := 85) rfl)) (hw _ (List.mem_of_getElem? (i := 36) rfl)) (by decide) (by decide)) q229a q229c (g := (mkF m 250 #[.val (.long q0), .second, .val (.long q1), .second, .val (.long q2), .second, .val (.int p3), .val (.long v2), .second, .val (.int v7), .val (.ref b106), .val (.ref b115), .val (.ref b130), .val (.int v32)] [(.ref b130)])) rfl (by rw [hml]; rfl) (Steps.refl _) (argsL := []) (rest := []) (lenOf pd5 rfl) rfl (by show 2 * 0 + _ ≤ _; exact Nat.le_of_eq rfl) (hb hby at_250) (fun _ _ => ⟨rfl, e226, (by decide : 3 + 0 ≤ _), (by decide : 9 + 0 ≤ _)⟩)
          dsimp only [Pt.U, Pt.locs, Pt.cells, Pt.slots] at X229 l229 y229 z229 st229 hQ229
          subst l229 y229 z229
          obtain ⟨b229_0, b229_1, rfl, N229q, K229q, F229_0, F229_1, F229_2, F229_3, F229_4, F229_5⟩ := hQ229
          have F230 := F208.keep K229q
          have F231 := F209.keep K229q (ninS ne_b106_b130 nin0)
          have F232 := F210.keep K229q (ninS ne_b106_b130 nin0)
          have F233 := F211.keep K229q
          have F234 := F212.keep K229q (ninS ne_b115_b130 nin0)
          have F235 := F213.keep K229q (ninS ne_b115_b130 nin0)
          have F236 := F207_0.keep K229q
          have Z237 : n0 ≤ T229.heap.size := Nat.le_trans Z215 K229q.1
          have K238 : Keep h0 T229.heap [] := K216.trans K229q (allS (Or.inr sz_b130) all0)
          have F229_1f : Fld Z T229.heap b130 "com/example/upper_falls/upperfalls/KeyPositions" "index" "I" (.int (4 : Int32)) := F229_1
          have N229 := Fr.app N226 N229q
          obtain ⟨v36, hv36⟩ : ∃ z : Int32, z = (if (4 : Int32) < v7 then (1 : Int32) else (0 : Int32)) := ⟨_, rfl⟩
          obtain ⟨v38, hv38⟩ : ∃ z : Int32, z = (if (own_r12 (4 : Int32) v7) = v36 then (1 : Int32) else (0 : Int32)) := ⟨_, rfl⟩
          obtain ⟨v39, hv39⟩ : ∃ z : Int32, z = (if v32 = (0 : Int32) then (0 : Int32) else v38) := ⟨_, rfl⟩
          obtain ⟨T248, lc248, X248, N248, e248, st248⟩ := own_mrg (n0 := n0) (h := T229.heap) (g := (mkF m 256 #[.val (.long q0), .second, .val (.long q1), .second, .val (.long q2), .second, .val (.int p3), .val (.long v2), .second, .val (.int v7), .val (.ref b106), .val (.ref b115), .val (.ref b130), .val (.int v32)] [(.int v32)])) (g' := (mkF m 283 #[.val (.long q0), .second, .val (.long q1), .second, .val (.long q2), .second, .val (.int p3), .val (.long v2), .second, .val (.int v7), .val (.ref b106), .val (.ref b115), .val (.ref b130), .val (.int v32)] [(.int v39)])) X229 (by
            by_cases hc256_34 : v32 = (0 : Int32)
            · have hgo239 : ∀ t, Steps p.tables e below (T229.setTop (mkF m 283 #[.val (.long q0), .second, .val (.long q1), .second, .val (.long q2), .second, .val (.int p3), .val (.long v2), .second, .val (.int v7), .val (.ref b106), .val (.ref b115), .val (.ref b130), .val (.int v32)] [(.int (0 : Int32))])) t → Steps p.tables e below (T229.setTop (mkF m 256 #[.val (.long q0), .second, .val (.long q1), .second, .val (.long q2), .second, .val (.int p3), .val (.long v2), .second, .val (.int v7), .val (.ref b106), .val (.ref b115), .val (.ref b130), .val (.int v32)] [(.int v32)])) t := by
                intro t kt
                show Steps p.tables e below (T229.setTop (mkF m 256 #[.val (.long q0), .second, .val (.long q1), .second, .val (.long q2), .second, .val (.int p3), .val (.long v2), .second, .val (.int v7), .val (.ref b106), .val (.ref b115), .val (.ref b130), .val (.int v32)] [(.int v32)])) _
                refine XS.ifYes X229.here hx rfl (pc0 := 256) (pc' := 282) rfl (hb hby at_256) rfl ((if0 _ _).trans (teq hc256_34).1) (by decide) (by decide) ?_
                show Steps p.tables e below (T229.setTop (mkF m 282 #[.val (.long q0), .second, .val (.long q1), .second, .val (.long q2), .second, .val (.int p3), .val (.long v2), .second, .val (.int v7), .val (.ref b106), .val (.ref b115), .val (.ref b130), .val (.int v32)] [])) _
                refine XS.iconst X229.here hx rfl (hb hby at_282) ?_
                exact kt
              refine own_arm hgo239 ?_
              exact own_armEnd X229 N229 (rfl : T229.heap = T229.heap) (by rw [hv39.trans (if_pos hc256_34)])
            · obtain ⟨cq240, kq240, q240a, q240b, q240c⟩ := isOf hZ (rfl : T229.heap = T229.heap) F229_0
              obtain ⟨_, _, ⟨T240, L240, k240, n240⟩, -, X240, ⟨Lc240, hQ240, l240, y240, z240⟩, st240⟩ := X229.virtualBack hx (y := (⟨"com/example/upper_falls/upperfalls/KeyPositions", "hasNext", "()Z"⟩ : MethodName)) (z := (⟨"com/example/upper_falls/upperfalls/KeyPositions", "hasNext", "()Z"⟩ : MethodName)) hown (mvT hZ (hw _ (List.mem_of_getElem? (i := 74) rfl))) (mvT hZ (hw _ (List.mem_of_getElem? (i := 75) rfl))) (notFace_of_selects (args := #[]) (mvT hZ (hw _ (List.mem_of_getElem? (i := 77) rfl)))) (mvT hZ (hw _ (List.mem_of_getElem? (i := 77) rfl))) (mvT hZ (hw _ (List.mem_of_getElem? (i := 76) rfl))) (by decide) (backOf (W := 0) (rm12 l Z a0 hw [] b130 (4 : Int32) v7 (T229.heap) n0 Z237 F229_1f F229_2) hZ (hw _ (List.mem_of_getElem? (i := 78) rfl)) (hw _ (List.mem_of_getElem? (i := 36) rfl)) (by decide) (by decide)) q240a q240c (g := (mkF m 261 #[.val (.long q0), .second, .val (.long q1), .second, .val (.long q2), .second, .val (.int p3), .val (.long v2), .second, .val (.int v7), .val (.ref b106), .val (.ref b115), .val (.ref b130), .val (.int v32)] [(.ref b130)])) rfl (by rw [hml]; rfl) (Steps.refl _) (argsL := []) (rest := []) (lenOf pd13 rfl) rfl (by show 2 * 0 + _ ≤ _; exact Nat.le_of_eq rfl) (hb hby at_261) (fun _ _ => ⟨rfl, (rfl : T229.heap = T229.heap), (by decide : 3 + 0 ≤ _), (by decide : 9 + 0 ≤ _)⟩)
              dsimp only [Pt.U, Pt.locs, Pt.cells, Pt.slots] at X240 l240 y240 z240 st240 hQ240
              subst l240 y240 z240
              obtain ⟨rfl, N240q, e240⟩ := hQ240
              have N240 := Fr.app N229 N240q
              obtain ⟨T243, lc243, X243, N243, e243, st243⟩ := own_mrg (n0 := n0) (h := T229.heap) (g := (mkF m 267 #[.val (.long q0), .second, .val (.long q1), .second, .val (.long q2), .second, .val (.int p3), .val (.long v2), .second, .val (.int v7), .val (.ref b106), .val (.ref b115), .val (.ref b130), .val (.int v32)] [(.int v7), (.int (4 : Int32)), (.int (own_r12 (4 : Int32) v7))])) (g' := (mkF m 275 #[.val (.long q0), .second, .val (.long q1), .second, .val (.long q2), .second, .val (.int p3), .val (.long v2), .second, .val (.int v7), .val (.ref b106), .val (.ref b115), .val (.ref b130), .val (.int v32)] [(.int v36), (.int (own_r12 (4 : Int32) v7))])) X240 (by
                by_cases hc267_35 : (4 : Int32) < v7
                · have hgo241 : ∀ t, Steps p.tables e below (T240.setTop (mkF m 275 #[.val (.long q0), .second, .val (.long q1), .second, .val (.long q2), .second, .val (.int p3), .val (.long v2), .second, .val (.int v7), .val (.ref b106), .val (.ref b115), .val (.ref b130), .val (.int v32)] [(.int (1 : Int32)), (.int (own_r12 (4 : Int32) v7))])) t → Steps p.tables e below (T240.setTop (mkF m 267 #[.val (.long q0), .second, .val (.long q1), .second, .val (.long q2), .second, .val (.int p3), .val (.long v2), .second, .val (.int v7), .val (.ref b106), .val (.ref b115), .val (.ref b130), .val (.int v32)] [(.int v7), (.int (4 : Int32)), (.int (own_r12 (4 : Int32) v7))])) t := by
                    intro t kt
                    show Steps p.tables e below (T240.setTop (mkF m 267 #[.val (.long q0), .second, .val (.long q1), .second, .val (.long q2), .second, .val (.int p3), .val (.long v2), .second, .val (.int v7), .val (.ref b106), .val (.ref b115), .val (.ref b130), .val (.int v32)] [(.int v7), (.int (4 : Int32)), (.int (own_r12 (4 : Int32) v7))])) _
                    refine XS.icmpNo X240.here hx rfl (hb hby at_267) rfl (tlt hc267_35).2.1 ?_
                    show Steps p.tables e below (T240.setTop (mkF m 270 #[.val (.long q0), .second, .val (.long q1), .second, .val (.long q2), .second, .val (.int p3), .val (.long v2), .second, .val (.int v7), .val (.ref b106), .val (.ref b115), .val (.ref b130), .val (.int v32)] [(.int (own_r12 (4 : Int32) v7))])) _
                    refine XS.iconst X240.here hx rfl (hb hby at_270) ?_
                    show Steps p.tables e below (T240.setTop (mkF m 271 #[.val (.long q0), .second, .val (.long q1), .second, .val (.long q2), .second, .val (.int p3), .val (.long v2), .second, .val (.int v7), .val (.ref b106), .val (.ref b115), .val (.ref b130), .val (.int v32)] [(.int (1 : Int32)), (.int (own_r12 (4 : Int32) v7))])) _
                    refine XS.goto X240.here hx rfl (pc0 := 271) (pc' := 275) rfl (hb hby at_271) (by decide) (by decide) ?_
                    exact kt
                  refine own_arm hgo241 ?_
                  exact own_armEnd X240 N240 e240 (by rw [hv36.trans (if_pos hc267_35)])
                · have hgo242 : ∀ t, Steps p.tables e below (T240.setTop (mkF m 275 #[.val (.long q0), .second, .val (.long q1), .second, .val (.long q2), .second, .val (.int p3), .val (.long v2), .second, .val (.int v7), .val (.ref b106), .val (.ref b115), .val (.ref b130), .val (.int v32)] [(.int (0 : Int32)), (.int (own_r12 (4 : Int32) v7))])) t → Steps p.tables e below (T240.setTop (mkF m 267 #[.val (.long q0), .second, .val (.long q1), .second, .val (.long q2), .second, .val (.int p3), .val (.long v2), .second, .val (.int v7), .val (.ref b106), .val (.ref b115), .val (.ref b130), .val (.int v32)] [(.int v7), (.int (4 : Int32)), (.int (own_r12 (4 : Int32) v7))])) t := by
                    intro t kt
                    show Steps p.tables e below (T240.setTop (mkF m 267 #[.val (.long q0), .second, .val (.long q1), .second, .val (.long q2), .second, .val (.int p3), .val (.long v2), .second, .val (.int v7), .val (.ref b106), .val (.ref b115), .val (.ref b130), .val (.int v32)] [(.int v7), (.int (4 : Int32)), (.int (own_r12 (4 : Int32) v7))])) _
                    refine XS.icmpYes X240.here hx rfl (pc0 := 267) (pc' := 274) rfl (hb hby at_267) rfl (flt hc267_35).2.1 (by decide) (by decide) ?_
                    show Steps p.tables e below (T240.setTop (mkF m 274 #[.val (.long q0), .second, .val (.long q1), .second, .val (.long q2), .second, .val (.int p3), .val (.long v2), .second, .val (.int v7), .val (.ref b106), .val (.ref b115), .val (.ref b130), .val (.int v32)] [(.int (own_r12 (4 : Int32) v7))])) _
                    refine XS.iconst X240.here hx rfl (hb hby at_274) ?_
                    exact kt
                  refine own_arm hgo242 ?_
                  exact own_armEnd X240 N240 e240 (by rw [hv36.trans (if_neg hc267_35)]))
              obtain ⟨T246, lc246, X246, N246, e246, st246⟩ := own_mrg (n0 := n0) (h := T229.heap) (g := (mkF m 275 #[.val (.long q0), .second, .val (.long q1), .second, .val (.long q2), .second, .val (.int p3), .val (.long v2), .second, .val (.int v7), .val (.ref b106), .val (.ref b115), .val (.ref b130), .val (.int v32)] [(.int v36), (.int (own_r12 (4 : Int32) v7))])) (g' := (mkF m 283 #[.val (.long q0), .second, .val (.long q1), .second, .val (.long q2), .second, .val (.int p3), .val (.long v2), .second, .val (.int v7), .val (.ref b106), .val (.ref b115), .val (.ref b130), .val (.int v32)] [(.int v38)])) X243 (by
                by_cases hc275_37 : (own_r12 (4 : Int32) v7) = v36
                · have hgo244 : ∀ t, Steps p.tables e below (T243.setTop (mkF m 283 #[.val (.long q0), .second, .val (.long q1), .second, .val (.long q2), .second, .val (.int p3), .val (.long v2), .second, .val (.int v7), .val (.ref b106), .val (.ref b115), .val (.ref b130), .val (.int v32)] [(.int (1 : Int32))])) t → Steps p.tables e below (T243.setTop (mkF m 275 #[.val (.long q0), .second, .val (.long q1), .second, .val (.long q2), .second, .val (.int p3), .val (.long v2), .second, .val (.int v7), .val (.ref b106), .val (.ref b115), .val (.ref b130), .val (.int v32)] [(.int v36), (.int (own_r12 (4 : Int32) v7))])) t := by
                    intro t kt
                    show Steps p.tables e below (T243.setTop (mkF m 275 #[.val (.long q0), .second, .val (.long q1), .second, .val (.long q2), .second, .val (.int p3), .val (.long v2), .second, .val (.int v7), .val (.ref b106), .val (.ref b115), .val (.ref b130), .val (.int v32)] [(.int v36), (.int (own_r12 (4 : Int32) v7))])) _
                    refine XS.icmpNo X243.here hx rfl (hb hby at_275) rfl (teq hc275_37).2 ?_
                    show Steps p.tables e below (T243.setTop (mkF m 278 #[.val (.long q0), .second, .val (.long q1), .second, .val (.long q2), .second, .val (.int p3), .val (.long v2), .second, .val (.int v7), .val (.ref b106), .val (.ref b115), .val (.ref b130), .val (.int v32)] [])) _
                    refine XS.iconst X243.here hx rfl (hb hby at_278) ?_
                    show Steps p.tables e below (T243.setTop (mkF m 279 #[.val (.long q0), .second, .val (.long q1), .second, .val (.long q2), .second, .val (.int p3), .val (.long v2), .second, .val (.int v7), .val (.ref b106), .val (.ref b115), .val (.ref b130), .val (.int v32)] [(.int (1 : Int32))])) _
                    refine XS.goto X243.here hx rfl (pc0 := 279) (pc' := 283) rfl (hb hby at_279) (by decide) (by decide) ?_
                    exact kt
                  refine own_arm hgo244 ?_
                  exact own_armEnd X243 N243 e243 (by rw [hv38.trans (if_pos hc275_37)])
                · have hgo245 : ∀ t, Steps p.tables e below (T243.setTop (mkF m 283 #[.val (.long q0), .second, .val (.long q1), .second, .val (.long q2), .second, .val (.int p3), .val (.long v2), .second, .val (.int v7), .val (.ref b106), .val (.ref b115), .val (.ref b130), .val (.int v32)] [(.int (0 : Int32))])) t → Steps p.tables e below (T243.setTop (mkF m 275 #[.val (.long q0), .second, .val (.long q1), .second, .val (.long q2), .second, .val (.int p3), .val (.long v2), .second, .val (.int v7), .val (.ref b106), .val (.ref b115), .val (.ref b130), .val (.int v32)] [(.int v36), (.int (own_r12 (4 : Int32) v7))])) t := by
                    intro t kt
                    show Steps p.tables e below (T243.setTop (mkF m 275 #[.val (.long q0), .second, .val (.long q1), .second, .val (.long q2), .second, .val (.int p3), .val (.long v2), .second, .val (.int v7), .val (.ref b106), .val (.ref b115), .val (.ref b130), .val (.int v32)] [(.int v36), (.int (own_r12 (4 : Int32) v7))])) _
                    refine XS.icmpYes X243.here hx rfl (pc0 := 275) (pc' := 282) rfl (hb hby at_275) rfl (feq hc275_37).2 (by decide) (by decide) ?_
                    show Steps p.tables e below (T243.setTop (mkF m 282 #[.val (.long q0), .second, .val (.long q1), .second, .val (.long q2), .second, .val (.int p3), .val (.long v2), .second, .val (.int v7), .val (.ref b106), .val (.ref b115), .val (.ref b130), .val (.int v32)] [])) _
                    refine XS.iconst X243.here hx rfl (hb hby at_282) ?_
                    exact kt
                  refine own_arm hgo245 ?_
                  exact own_armEnd X243 N243 e243 (by rw [hv38.trans (if_neg hc275_37)]))
              have hgo247 : ∀ t, Steps p.tables e below (T246.setTop (mkF m 283 #[.val (.long q0), .second, .val (.long q1), .second, .val (.long q2), .second, .val (.int p3), .val (.long v2), .second, .val (.int v7), .val (.ref b106), .val (.ref b115), .val (.ref b130), .val (.int v32)] [(.int v38)])) t → Steps p.tables e below (T229.setTop (mkF m 256 #[.val (.long q0), .second, .val (.long q1), .second, .val (.long q2), .second, .val (.int p3), .val (.long v2), .second, .val (.int v7), .val (.ref b106), .val (.ref b115), .val (.ref b130), .val (.int v32)] [(.int v32)])) t := by
                intro t kt
                show Steps p.tables e below (T229.setTop (mkF m 256 #[.val (.long q0), .second, .val (.long q1), .second, .val (.long q2), .second, .val (.int p3), .val (.long v2), .second, .val (.int v7), .val (.ref b106), .val (.ref b115), .val (.ref b130), .val (.int v32)] [(.int v32)])) _
                refine XS.ifNo X229.here hx rfl (hb hby at_256) rfl ((if0 _ _).trans (feq hc256_34).1) ?_
                show Steps p.tables e below (T229.setTop (mkF m 259 #[.val (.long q0), .second, .val (.long q1), .second, .val (.long q2), .second, .val (.int p3), .val (.long v2), .second, .val (.int v7), .val (.ref b106), .val (.ref b115), .val (.ref b130), .val (.int v32)] [])) _
                refine XS.aload X229.here hx rfl (hb hby at_259) rfl rfl ?_
                show Steps p.tables e below (T229.setTop (mkF m 261 #[.val (.long q0), .second, .val (.long q1), .second, .val (.long q2), .second, .val (.int p3), .val (.long v2), .second, .val (.int v7), .val (.ref b106), .val (.ref b115), .val (.ref b130), .val (.int v32)] [(.ref b130)])) _
                refine st240.trans ?_
                show Steps p.tables e below (T240.setTop (mkF m 264 #[.val (.long q0), .second, .val (.long q1), .second, .val (.long q2), .second, .val (.int p3), .val (.long v2), .second, .val (.int v7), .val (.ref b106), .val (.ref b115), .val (.ref b130), .val (.int v32)] [(.int (own_r12 (4 : Int32) v7))])) _
                refine XS.iconst X240.here hx rfl (hb hby at_264) ?_
                show Steps p.tables e below (T240.setTop (mkF m 265 #[.val (.long q0), .second, .val (.long q1), .second, .val (.long q2), .second, .val (.int p3), .val (.long v2), .second, .val (.int v7), .val (.ref b106), .val (.ref b115), .val (.ref b130), .val (.int v32)] [(.int (4 : Int32)), (.int (own_r12 (4 : Int32) v7))])) _
                refine XS.iload X240.here hx rfl (hb hby at_265) rfl ?_
                show Steps p.tables e below (T240.setTop (mkF m 267 #[.val (.long q0), .second, .val (.long q1), .second, .val (.long q2), .second, .val (.int p3), .val (.long v2), .second, .val (.int v7), .val (.ref b106), .val (.ref b115), .val (.ref b130), .val (.int v32)] [(.int v7), (.int (4 : Int32)), (.int (own_r12 (4 : Int32) v7))])) _
                refine st243 _ ?_
                show Steps p.tables e below (T243.setTop (mkF m 275 #[.val (.long q0), .second, .val (.long q1), .second, .val (.long q2), .second, .val (.int p3), .val (.long v2), .second, .val (.int v7), .val (.ref b106), .val (.ref b115), .val (.ref b130), .val (.int v32)] [(.int v36), (.int (own_r12 (4 : Int32) v7))])) _
                refine st246 _ ?_
                exact kt
              refine own_arm hgo247 ?_
              exact own_armEnd X246 N246 e246 (by rw [hv39.trans (if_neg hc256_34)]))
          have hgo249 : ∀ t, Steps p.tables e below (T248.setTop (mkF m 287 #[.val (.long q0), .second, .val (.long q1), .second, .val (.long q2), .second, .val (.int p3), .val (.long v2), .second, .val (.int v7), .val (.ref b106), .val (.ref b115), .val (.ref b130), .val (.int v39)] [(.int v39)])) t → Steps p.tables e below (T226.setTop (mkF m 245 #[.val (.long q0), .second, .val (.long q1), .second, .val (.long q2), .second, .val (.int p3), .val (.long v2), .second, .val (.int v7), .val (.ref b106), .val (.ref b115), .val (.ref b130), .val (.int v32)] [(.int v7), (.int (3 : Int32))])) t := by
            intro t kt
            show Steps p.tables e below (T226.setTop (mkF m 245 #[.val (.long q0), .second, .val (.long q1), .second, .val (.long q2), .second, .val (.int p3), .val (.long v2), .second, .val (.int v7), .val (.ref b106), .val (.ref b115), .val (.ref b130), .val (.int v32)] [(.int v7), (.int (3 : Int32))])) _
            refine XS.icmpNo X226.here hx rfl (hb hby at_245) rfl (tlt hc245_33).2.1 ?_
            show Steps p.tables e below (T226.setTop (mkF m 248 #[.val (.long q0), .second, .val (.long q1), .second, .val (.long q2), .second, .val (.int p3), .val (.long v2), .second, .val (.int v7), .val (.ref b106), .val (.ref b115), .val (.ref b130), .val (.int v32)] [])) _
            refine XS.aload X226.here hx rfl (hb hby at_248) rfl rfl ?_
            show Steps p.tables e below (T226.setTop (mkF m 250 #[.val (.long q0), .second, .val (.long q1), .second, .val (.long q2), .second, .val (.int p3), .val (.long v2), .second, .val (.int v7), .val (.ref b106), .val (.ref b115), .val (.ref b130), .val (.int v32)] [(.ref b130)])) _
            refine st229.trans ?_
            show Steps p.tables e below (T229.setTop (mkF m 253 #[.val (.long q0), .second, .val (.long q1), .second, .val (.long q2), .second, .val (.int p3), .val (.long v2), .second, .val (.int v7), .val (.ref b106), .val (.ref b115), .val (.ref b130), .val (.int v32)] [(.long (own_r13 (3 : Int32) v2 b207_0 b207_1))])) _
            jvm_step X229.here [X229.here.top, hx, (hb hby at_253), Value.category]
            show Steps p.tables e below (T229.setTop (mkF m 254 #[.val (.long q0), .second, .val (.long q1), .second, .val (.long q2), .second, .val (.int p3), .val (.long v2), .second, .val (.int v7), .val (.ref b106), .val (.ref b115), .val (.ref b130), .val (.int v32)] [])) _
            refine XS.iload X229.here hx rfl (hb hby at_254) rfl ?_
            show Steps p.tables e below (T229.setTop (mkF m 256 #[.val (.long q0), .second, .val (.long q1), .second, .val (.long q2), .second, .val (.int p3), .val (.long v2), .second, .val (.int v7), .val (.ref b106), .val (.ref b115), .val (.ref b130), .val (.int v32)] [(.int v32)])) _
            refine st248 _ ?_
            show Steps p.tables e below (T248.setTop (mkF m 283 #[.val (.long q0), .second, .val (.long q1), .second, .val (.long q2), .second, .val (.int p3), .val (.long v2), .second, .val (.int v7), .val (.ref b106), .val (.ref b115), .val (.ref b130), .val (.int v32)] [(.int v39)])) _
            refine XS.istore X248.here hx rfl (hb hby at_283) rfl (l' := #[.val (.long q0), .second, .val (.long q1), .second, .val (.long q2), .second, .val (.int p3), .val (.long v2), .second, .val (.int v7), .val (.ref b106), .val (.ref b115), .val (.ref b130), .val (.int v39)]) rfl ?_
            show Steps p.tables e below (T248.setTop (mkF m 285 #[.val (.long q0), .second, .val (.long q1), .second, .val (.long q2), .second, .val (.int p3), .val (.long v2), .second, .val (.int v7), .val (.ref b106), .val (.ref b115), .val (.ref b130), .val (.int v39)] [])) _
            refine XS.iload X248.here hx rfl (hb hby at_285) rfl ?_
            exact kt
          refine own_go hgo249 ?_
          have hz250 : v39 = 1 := own_leaf0 (q0 := q0) (q1 := q1) (q2 := q2) (p3 := p3) hv1 hv2 hv4 hv5 hv6 hv7 hv9 hv11 hv15 hv17 hv18 hv22 hv24 hv25 hv29 hv31 hv32 hv36 hv38 hv39 hc116_12 hc159_19 hc202_26 hc245_33
          exact own_retZ X248 hx Bd.returns Bd.notSynchronized (hb hby at_287) (by decide) (by decide) (Or.inr hz250) ⟨by rw [hz250], N248⟩
        · obtain ⟨v42, hv42⟩ : ∃ z : Int32, z = (if (own_r12 (3 : Int32) v7) = (0 : Int32) then (1 : Int32) else (0 : Int32)) := ⟨_, rfl⟩
          obtain ⟨v43, hv43⟩ : ∃ z : Int32, z = (if v32 = (0 : Int32) then (0 : Int32) else v42) := ⟨_, rfl⟩
          obtain ⟨T257, lc257, X257, N257, e257, st257⟩ := own_mrg (n0 := n0) (h := T207.heap) (g := (mkF m 256 #[.val (.long q0), .second, .val (.long q1), .second, .val (.long q2), .second, .val (.int p3), .val (.long v2), .second, .val (.int v7), .val (.ref b106), .val (.ref b115), .val (.ref b130), .val (.int v32)] [(.int v32)])) (g' := (mkF m 283 #[.val (.long q0), .second, .val (.long q1), .second, .val (.long q2), .second, .val (.int p3), .val (.long v2), .second, .val (.int v7), .val (.ref b106), .val (.ref b115), .val (.ref b130), .val (.int v32)] [(.int v43)])) X226 (by
            by_cases hc256_40 : v32 = (0 : Int32)
            · have hgo251 : ∀ t, Steps p.tables e below (T226.setTop (mkF m 283 #[.val (.long q0), .second, .val (.long q1), .second, .val (.long q2), .second, .val (.int p3), .val (.long v2), .second, .val (.int v7), .val (.ref b106), .val (.ref b115), .val (.ref b130), .val (.int v32)] [(.int (0 : Int32))])) t → Steps p.tables e below (T226.setTop (mkF m 256 #[.val (.long q0), .second, .val (.long q1), .second, .val (.long q2), .second, .val (.int p3), .val (.long v2), .second, .val (.int v7), .val (.ref b106), .val (.ref b115), .val (.ref b130), .val (.int v32)] [(.int v32)])) t := by
                intro t kt
                show Steps p.tables e below (T226.setTop (mkF m 256 #[.val (.long q0), .second, .val (.long q1), .second, .val (.long q2), .second, .val (.int p3), .val (.long v2), .second, .val (.int v7), .val (.ref b106), .val (.ref b115), .val (.ref b130), .val (.int v32)] [(.int v32)])) _
                refine XS.ifYes X226.here hx rfl (pc0 := 256) (pc' := 282) rfl (hb hby at_256) rfl ((if0 _ _).trans (teq hc256_40).1) (by decide) (by decide) ?_
                show Steps p.tables e below (T226.setTop (mkF m 282 #[.val (.long q0), .second, .val (.long q1), .second, .val (.long q2), .second, .val (.int p3), .val (.long v2), .second, .val (.int v7), .val (.ref b106), .val (.ref b115), .val (.ref b130), .val (.int v32)] [])) _
                refine XS.iconst X226.here hx rfl (hb hby at_282) ?_
                exact kt
              refine own_arm hgo251 ?_
              exact own_armEnd X226 N226 e226 (by rw [hv43.trans (if_pos hc256_40)])
            · obtain ⟨cq252, kq252, q252a, q252b, q252c⟩ := isOf hZ e226 F207_0
              obtain ⟨_, _, ⟨T252, L252, k252, n252⟩, -, X252, ⟨Lc252, hQ252, l252, y252, z252⟩, st252⟩ := X226.virtualBack hx (y := (⟨"com/example/upper_falls/upperfalls/KeyPositions", "hasNext", "()Z"⟩ : MethodName)) (z := (⟨"com/example/upper_falls/upperfalls/KeyPositions", "hasNext", "()Z"⟩ : MethodName)) hown (mvT hZ (hw _ (List.mem_of_getElem? (i := 74) rfl))) (mvT hZ (hw _ (List.mem_of_getElem? (i := 75) rfl))) (notFace_of_selects (args := #[]) (mvT hZ (hw _ (List.mem_of_getElem? (i := 77) rfl)))) (mvT hZ (hw _ (List.mem_of_getElem? (i := 77) rfl))) (mvT hZ (hw _ (List.mem_of_getElem? (i := 76) rfl))) (by decide) (backOf (W := 0) (rm12 l Z a0 hw [] b130 (3 : Int32) v7 (T207.heap) n0 Z215 F207_1f F207_2) hZ (hw _ (List.mem_of_getElem? (i := 78) rfl)) (hw _ (List.mem_of_getElem? (i := 36) rfl)) (by decide) (by decide)) q252a q252c (g := (mkF m 261 #[.val (.long q0), .second, .val (.long q1), .second, .val (.long q2), .second, .val (.int p3), .val (.long v2), .second, .val (.int v7), .val (.ref b106), .val (.ref b115), .val (.ref b130), .val (.int v32)] [(.ref b130)])) rfl (by rw [hml]; rfl) (Steps.refl _) (argsL := []) (rest := []) (lenOf pd13 rfl) rfl (by show 2 * 0 + _ ≤ _; exact Nat.le_of_eq rfl) (hb hby at_261) (fun _ _ => ⟨rfl, e226, (by decide : 3 + 0 ≤ _), (by decide : 9 + 0 ≤ _)⟩)
              dsimp only [Pt.U, Pt.locs, Pt.cells, Pt.slots] at X252 l252 y252 z252 st252 hQ252
              subst l252 y252 z252
              obtain ⟨rfl, N252q, e252⟩ := hQ252
              have N252 := Fr.app N226 N252q
              obtain ⟨T255, lc255, X255, N255, e255, st255⟩ := own_mrg (n0 := n0) (h := T207.heap) (g := (mkF m 275 #[.val (.long q0), .second, .val (.long q1), .second, .val (.long q2), .second, .val (.int p3), .val (.long v2), .second, .val (.int v7), .val (.ref b106), .val (.ref b115), .val (.ref b130), .val (.int v32)] [(.int (0 : Int32)), (.int (own_r12 (3 : Int32) v7))])) (g' := (mkF m 283 #[.val (.long q0), .second, .val (.long q1), .second, .val (.long q2), .second, .val (.int p3), .val (.long v2), .second, .val (.int v7), .val (.ref b106), .val (.ref b115), .val (.ref b130), .val (.int v32)] [(.int v42)])) X252 (by
                by_cases hc275_41 : (own_r12 (3 : Int32) v7) = (0 : Int32)
                · have hgo253 : ∀ t, Steps p.tables e below (T252.setTop (mkF m 283 #[.val (.long q0), .second, .val (.long q1), .second, .val (.long q2), .second, .val (.int p3), .val (.long v2), .second, .val (.int v7), .val (.ref b106), .val (.ref b115), .val (.ref b130), .val (.int v32)] [(.int (1 : Int32))])) t → Steps p.tables e below (T252.setTop (mkF m 275 #[.val (.long q0), .second, .val (.long q1), .second, .val (.long q2), .second, .val (.int p3), .val (.long v2), .second, .val (.int v7), .val (.ref b106), .val (.ref b115), .val (.ref b130), .val (.int v32)] [(.int (0 : Int32)), (.int (own_r12 (3 : Int32) v7))])) t := by
                    intro t kt
                    show Steps p.tables e below (T252.setTop (mkF m 275 #[.val (.long q0), .second, .val (.long q1), .second, .val (.long q2), .second, .val (.int p3), .val (.long v2), .second, .val (.int v7), .val (.ref b106), .val (.ref b115), .val (.ref b130), .val (.int v32)] [(.int (0 : Int32)), (.int (own_r12 (3 : Int32) v7))])) _
                    refine XS.icmpNo X252.here hx rfl (hb hby at_275) rfl (teq hc275_41).2 ?_
                    show Steps p.tables e below (T252.setTop (mkF m 278 #[.val (.long q0), .second, .val (.long q1), .second, .val (.long q2), .second, .val (.int p3), .val (.long v2), .second, .val (.int v7), .val (.ref b106), .val (.ref b115), .val (.ref b130), .val (.int v32)] [])) _
                    refine XS.iconst X252.here hx rfl (hb hby at_278) ?_
                    show Steps p.tables e below (T252.setTop (mkF m 279 #[.val (.long q0), .second, .val (.long q1), .second, .val (.long q2), .second, .val (.int p3), .val (.long v2), .second, .val (.int v7), .val (.ref b106), .val (.ref b115), .val (.ref b130), .val (.int v32)] [(.int (1 : Int32))])) _
                    refine XS.goto X252.here hx rfl (pc0 := 279) (pc' := 283) rfl (hb hby at_279) (by decide) (by decide) ?_
                    exact kt
                  refine own_arm hgo253 ?_
                  exact own_armEnd X252 N252 e252 (by rw [hv42.trans (if_pos hc275_41)])
                · have hgo254 : ∀ t, Steps p.tables e below (T252.setTop (mkF m 283 #[.val (.long q0), .second, .val (.long q1), .second, .val (.long q2), .second, .val (.int p3), .val (.long v2), .second, .val (.int v7), .val (.ref b106), .val (.ref b115), .val (.ref b130), .val (.int v32)] [(.int (0 : Int32))])) t → Steps p.tables e below (T252.setTop (mkF m 275 #[.val (.long q0), .second, .val (.long q1), .second, .val (.long q2), .second, .val (.int p3), .val (.long v2), .second, .val (.int v7), .val (.ref b106), .val (.ref b115), .val (.ref b130), .val (.int v32)] [(.int (0 : Int32)), (.int (own_r12 (3 : Int32) v7))])) t := by
                    intro t kt
                    show Steps p.tables e below (T252.setTop (mkF m 275 #[.val (.long q0), .second, .val (.long q1), .second, .val (.long q2), .second, .val (.int p3), .val (.long v2), .second, .val (.int v7), .val (.ref b106), .val (.ref b115), .val (.ref b130), .val (.int v32)] [(.int (0 : Int32)), (.int (own_r12 (3 : Int32) v7))])) _
                    refine XS.icmpYes X252.here hx rfl (pc0 := 275) (pc' := 282) rfl (hb hby at_275) rfl (feq hc275_41).2 (by decide) (by decide) ?_
                    show Steps p.tables e below (T252.setTop (mkF m 282 #[.val (.long q0), .second, .val (.long q1), .second, .val (.long q2), .second, .val (.int p3), .val (.long v2), .second, .val (.int v7), .val (.ref b106), .val (.ref b115), .val (.ref b130), .val (.int v32)] [])) _
                    refine XS.iconst X252.here hx rfl (hb hby at_282) ?_
                    exact kt
                  refine own_arm hgo254 ?_
                  exact own_armEnd X252 N252 e252 (by rw [hv42.trans (if_neg hc275_41)]))
              have hgo256 : ∀ t, Steps p.tables e below (T255.setTop (mkF m 283 #[.val (.long q0), .second, .val (.long q1), .second, .val (.long q2), .second, .val (.int p3), .val (.long v2), .second, .val (.int v7), .val (.ref b106), .val (.ref b115), .val (.ref b130), .val (.int v32)] [(.int v42)])) t → Steps p.tables e below (T226.setTop (mkF m 256 #[.val (.long q0), .second, .val (.long q1), .second, .val (.long q2), .second, .val (.int p3), .val (.long v2), .second, .val (.int v7), .val (.ref b106), .val (.ref b115), .val (.ref b130), .val (.int v32)] [(.int v32)])) t := by
                intro t kt
                show Steps p.tables e below (T226.setTop (mkF m 256 #[.val (.long q0), .second, .val (.long q1), .second, .val (.long q2), .second, .val (.int p3), .val (.long v2), .second, .val (.int v7), .val (.ref b106), .val (.ref b115), .val (.ref b130), .val (.int v32)] [(.int v32)])) _
                refine XS.ifNo X226.here hx rfl (hb hby at_256) rfl ((if0 _ _).trans (feq hc256_40).1) ?_
                show Steps p.tables e below (T226.setTop (mkF m 259 #[.val (.long q0), .second, .val (.long q1), .second, .val (.long q2), .second, .val (.int p3), .val (.long v2), .second, .val (.int v7), .val (.ref b106), .val (.ref b115), .val (.ref b130), .val (.int v32)] [])) _
                refine XS.aload X226.here hx rfl (hb hby at_259) rfl rfl ?_
                show Steps p.tables e below (T226.setTop (mkF m 261 #[.val (.long q0), .second, .val (.long q1), .second, .val (.long q2), .second, .val (.int p3), .val (.long v2), .second, .val (.int v7), .val (.ref b106), .val (.ref b115), .val (.ref b130), .val (.int v32)] [(.ref b130)])) _
                refine st252.trans ?_
                show Steps p.tables e below (T252.setTop (mkF m 264 #[.val (.long q0), .second, .val (.long q1), .second, .val (.long q2), .second, .val (.int p3), .val (.long v2), .second, .val (.int v7), .val (.ref b106), .val (.ref b115), .val (.ref b130), .val (.int v32)] [(.int (own_r12 (3 : Int32) v7))])) _
                refine XS.iconst X252.here hx rfl (hb hby at_264) ?_
                show Steps p.tables e below (T252.setTop (mkF m 265 #[.val (.long q0), .second, .val (.long q1), .second, .val (.long q2), .second, .val (.int p3), .val (.long v2), .second, .val (.int v7), .val (.ref b106), .val (.ref b115), .val (.ref b130), .val (.int v32)] [(.int (4 : Int32)), (.int (own_r12 (3 : Int32) v7))])) _
                refine XS.iload X252.here hx rfl (hb hby at_265) rfl ?_
                show Steps p.tables e below (T252.setTop (mkF m 267 #[.val (.long q0), .second, .val (.long q1), .second, .val (.long q2), .second, .val (.int p3), .val (.long v2), .second, .val (.int v7), .val (.ref b106), .val (.ref b115), .val (.ref b130), .val (.int v32)] [(.int v7), (.int (4 : Int32)), (.int (own_r12 (3 : Int32) v7))])) _
                refine XS.icmpYes X252.here hx rfl (pc0 := 267) (pc' := 274) rfl (hb hby at_267) rfl (flt (by have y0 := hc245_33; simp only [Int32.lt_iff_toInt_lt, ← Int32.toInt_inj, Int32.reduceToInt] at y0 ⊢; omega : ¬ ((4 : Int32) < v7))).2.1 (by decide) (by decide) ?_
                show Steps p.tables e below (T252.setTop (mkF m 274 #[.val (.long q0), .second, .val (.long q1), .second, .val (.long q2), .second, .val (.int p3), .val (.long v2), .second, .val (.int v7), .val (.ref b106), .val (.ref b115), .val (.ref b130), .val (.int v32)] [(.int (own_r12 (3 : Int32) v7))])) _
                refine XS.iconst X252.here hx rfl (hb hby at_274) ?_
                show Steps p.tables e below (T252.setTop (mkF m 275 #[.val (.long q0), .second, .val (.long q1), .second, .val (.long q2), .second, .val (.int p3), .val (.long v2), .second, .val (.int v7), .val (.ref b106), .val (.ref b115), .val (.ref b130), .val (.int v32)] [(.int (0 : Int32)), (.int (own_r12 (3 : Int32) v7))])) _
                refine st255 _ ?_
                exact kt
              refine own_arm hgo256 ?_
              exact own_armEnd X255 N255 e255 (by rw [hv43.trans (if_neg hc256_40)]))
          have hgo258 : ∀ t, Steps p.tables e below (T257.setTop (mkF m 287 #[.val (.long q0), .second, .val (.long q1), .second, .val (.long q2), .second, .val (.int p3), .val (.long v2), .second, .val (.int v7), .val (.ref b106), .val (.ref b115), .val (.ref b130), .val (.int v43)] [(.int v43)])) t → Steps p.tables e below (T226.setTop (mkF m 245 #[.val (.long q0), .second, .val (.long q1), .second, .val (.long q2), .second, .val (.int p3), .val (.long v2), .second, .val (.int v7), .val (.ref b106), .val (.ref b115), .val (.ref b130), .val (.int v32)] [(.int v7), (.int (3 : Int32))])) t := by
            intro t kt
            show Steps p.tables e below (T226.setTop (mkF m 245 #[.val (.long q0), .second, .val (.long q1), .second, .val (.long q2), .second, .val (.int p3), .val (.long v2), .second, .val (.int v7), .val (.ref b106), .val (.ref b115), .val (.ref b130), .val (.int v32)] [(.int v7), (.int (3 : Int32))])) _
            refine XS.icmpYes X226.here hx rfl (pc0 := 245) (pc' := 254) rfl (hb hby at_245) rfl (flt hc245_33).2.1 (by decide) (by decide) ?_
            show Steps p.tables e below (T226.setTop (mkF m 254 #[.val (.long q0), .second, .val (.long q1), .second, .val (.long q2), .second, .val (.int p3), .val (.long v2), .second, .val (.int v7), .val (.ref b106), .val (.ref b115), .val (.ref b130), .val (.int v32)] [])) _
            refine XS.iload X226.here hx rfl (hb hby at_254) rfl ?_
            show Steps p.tables e below (T226.setTop (mkF m 256 #[.val (.long q0), .second, .val (.long q1), .second, .val (.long q2), .second, .val (.int p3), .val (.long v2), .second, .val (.int v7), .val (.ref b106), .val (.ref b115), .val (.ref b130), .val (.int v32)] [(.int v32)])) _
            refine st257 _ ?_
            show Steps p.tables e below (T257.setTop (mkF m 283 #[.val (.long q0), .second, .val (.long q1), .second, .val (.long q2), .second, .val (.int p3), .val (.long v2), .second, .val (.int v7), .val (.ref b106), .val (.ref b115), .val (.ref b130), .val (.int v32)] [(.int v43)])) _
            refine XS.istore X257.here hx rfl (hb hby at_283) rfl (l' := #[.val (.long q0), .second, .val (.long q1), .second, .val (.long q2), .second, .val (.int p3), .val (.long v2), .second, .val (.int v7), .val (.ref b106), .val (.ref b115), .val (.ref b130), .val (.int v43)]) rfl ?_
            show Steps p.tables e below (T257.setTop (mkF m 285 #[.val (.long q0), .second, .val (.long q1), .second, .val (.long q2), .second, .val (.int p3), .val (.long v2), .second, .val (.int v7), .val (.ref b106), .val (.ref b115), .val (.ref b130), .val (.int v43)] [])) _
            refine XS.iload X257.here hx rfl (hb hby at_285) rfl ?_
            exact kt
          refine own_go hgo258 ?_
          have hz259 : v43 = 1 := own_leaf1 (q0 := q0) (q1 := q1) (q2 := q2) (p3 := p3) hv1 hv2 hv4 hv5 hv6 hv7 hv9 hv11 hv15 hv17 hv18 hv22 hv24 hv25 hv29 hv31 hv32 hv42 hv43 hc116_12 hc159_19 hc202_26 hc245_33
          exact own_retZ X257 hx Bd.returns Bd.notSynchronized (hb hby at_287) (by decide) (by decide) (Or.inr hz259) ⟨by rw [hz259], N257⟩
      · obtain ⟨v46, hv46⟩ : ∃ z : Int32, z = (if (own_r12 (2 : Int32) v7) = (0 : Int32) then (1 : Int32) else (0 : Int32)) := ⟨_, rfl⟩
        obtain ⟨v47, hv47⟩ : ∃ z : Int32, z = (if v25 = (0 : Int32) then (0 : Int32) else v46) := ⟨_, rfl⟩
        obtain ⟨T266, lc266, X266, N266, e266, st266⟩ := own_mrg (n0 := n0) (h := T185.heap) (g := (mkF m 213 #[.val (.long q0), .second, .val (.long q1), .second, .val (.long q2), .second, .val (.int p3), .val (.long v2), .second, .val (.int v7), .val (.ref b106), .val (.ref b115), .val (.ref b130), .val (.int v25)] [(.int v25)])) (g' := (mkF m 240 #[.val (.long q0), .second, .val (.long q1), .second, .val (.long q2), .second, .val (.int p3), .val (.long v2), .second, .val (.int v7), .val (.ref b106), .val (.ref b115), .val (.ref b130), .val (.int v25)] [(.int v47)])) X204 (by
          by_cases hc213_44 : v25 = (0 : Int32)
          · have hgo260 : ∀ t, Steps p.tables e below (T204.setTop (mkF m 240 #[.val (.long q0), .second, .val (.long q1), .second, .val (.long q2), .second, .val (.int p3), .val (.long v2), .second, .val (.int v7), .val (.ref b106), .val (.ref b115), .val (.ref b130), .val (.int v25)] [(.int (0 : Int32))])) t → Steps p.tables e below (T204.setTop (mkF m 213 #[.val (.long q0), .second, .val (.long q1), .second, .val (.long q2), .second, .val (.int p3), .val (.long v2), .second, .val (.int v7), .val (.ref b106), .val (.ref b115), .val (.ref b130), .val (.int v25)] [(.int v25)])) t := by
              intro t kt
              show Steps p.tables e below (T204.setTop (mkF m 213 #[.val (.long q0), .second, .val (.long q1), .second, .val (.long q2), .second, .val (.int p3), .val (.long v2), .second, .val (.int v7), .val (.ref b106), .val (.ref b115), .val (.ref b130), .val (.int v25)] [(.int v25)])) _
              refine XS.ifYes X204.here hx rfl (pc0 := 213) (pc' := 239) rfl (hb hby at_213) rfl ((if0 _ _).trans (teq hc213_44).1) (by decide) (by decide) ?_
              show Steps p.tables e below (T204.setTop (mkF m 239 #[.val (.long q0), .second, .val (.long q1), .second, .val (.long q2), .second, .val (.int p3), .val (.long v2), .second, .val (.int v7), .val (.ref b106), .val (.ref b115), .val (.ref b130), .val (.int v25)] [])) _
              refine XS.iconst X204.here hx rfl (hb hby at_239) ?_
              exact kt
            refine own_arm hgo260 ?_
            exact own_armEnd X204 N204 e204 (by rw [hv47.trans (if_pos hc213_44)])
          · obtain ⟨cq261, kq261, q261a, q261b, q261c⟩ := isOf hZ e204 F185_0
            obtain ⟨_, _, ⟨T261, L261, k261, n261⟩, -, X261, ⟨Lc261, hQ261, l261, y261, z261⟩, st261⟩ := X204.virtualBack hx (y := (⟨"com/example/upper_falls/upperfalls/KeyPositions", "hasNext", "()Z"⟩ : MethodName)) (z := (⟨"com/example/upper_falls/upperfalls/KeyPositions", "hasNext", "()Z"⟩ : MethodName)) hown (mvT hZ (hw _ (List.mem_of_getElem? (i := 74) rfl))) (mvT hZ (hw _ (List.mem_of_getElem? (i := 75) rfl))) (notFace_of_selects (args := #[]) (mvT hZ (hw _ (List.mem_of_getElem? (i := 77) rfl)))) (mvT hZ (hw _ (List.mem_of_getElem? (i := 77) rfl))) (mvT hZ (hw _ (List.mem_of_getElem? (i := 76) rfl))) (by decide) (backOf (W := 0) (rm12 l Z a0 hw [] b130 (2 : Int32) v7 (T185.heap) n0 Z193 F185_1f F185_2) hZ (hw _ (List.mem_of_getElem? (i := 78) rfl)) (hw _ (List.mem_of_getElem? (i := 36) rfl)) (by decide) (by decide)) q261a q261c (g := (mkF m 218 #[.val (.long q0), .second, .val (.long q1), .second, .val (.long q2), .second, .val (.int p3), .val (.long v2), .second, .val (.int v7), .val (.ref b106), .val (.ref b115), .val (.ref b130), .val (.int v25)] [(.ref b130)])) rfl (by rw [hml]; rfl) (Steps.refl _) (argsL := []) (rest := []) (lenOf pd13 rfl) rfl (by show 2 * 0 + _ ≤ _; exact Nat.le_of_eq rfl) (hb hby at_218) (fun _ _ => ⟨rfl, e204, (by decide : 3 + 0 ≤ _), (by decide : 9 + 0 ≤ _)⟩)
            dsimp only [Pt.U, Pt.locs, Pt.cells, Pt.slots] at X261 l261 y261 z261 st261 hQ261
            subst l261 y261 z261
            obtain ⟨rfl, N261q, e261⟩ := hQ261
            have N261 := Fr.app N204 N261q
            obtain ⟨T264, lc264, X264, N264, e264, st264⟩ := own_mrg (n0 := n0) (h := T185.heap) (g := (mkF m 232 #[.val (.long q0), .second, .val (.long q1), .second, .val (.long q2), .second, .val (.int p3), .val (.long v2), .second, .val (.int v7), .val (.ref b106), .val (.ref b115), .val (.ref b130), .val (.int v25)] [(.int (0 : Int32)), (.int (own_r12 (2 : Int32) v7))])) (g' := (mkF m 240 #[.val (.long q0), .second, .val (.long q1), .second, .val (.long q2), .second, .val (.int p3), .val (.long v2), .second, .val (.int v7), .val (.ref b106), .val (.ref b115), .val (.ref b130), .val (.int v25)] [(.int v46)])) X261 (by
              by_cases hc232_45 : (own_r12 (2 : Int32) v7) = (0 : Int32)
              · have hgo262 : ∀ t, Steps p.tables e below (T261.setTop (mkF m 240 #[.val (.long q0), .second, .val (.long q1), .second, .val (.long q2), .second, .val (.int p3), .val (.long v2), .second, .val (.int v7), .val (.ref b106), .val (.ref b115), .val (.ref b130), .val (.int v25)] [(.int (1 : Int32))])) t → Steps p.tables e below (T261.setTop (mkF m 232 #[.val (.long q0), .second, .val (.long q1), .second, .val (.long q2), .second, .val (.int p3), .val (.long v2), .second, .val (.int v7), .val (.ref b106), .val (.ref b115), .val (.ref b130), .val (.int v25)] [(.int (0 : Int32)), (.int (own_r12 (2 : Int32) v7))])) t := by
                  intro t kt
                  show Steps p.tables e below (T261.setTop (mkF m 232 #[.val (.long q0), .second, .val (.long q1), .second, .val (.long q2), .second, .val (.int p3), .val (.long v2), .second, .val (.int v7), .val (.ref b106), .val (.ref b115), .val (.ref b130), .val (.int v25)] [(.int (0 : Int32)), (.int (own_r12 (2 : Int32) v7))])) _
                  refine XS.icmpNo X261.here hx rfl (hb hby at_232) rfl (teq hc232_45).2 ?_
                  show Steps p.tables e below (T261.setTop (mkF m 235 #[.val (.long q0), .second, .val (.long q1), .second, .val (.long q2), .second, .val (.int p3), .val (.long v2), .second, .val (.int v7), .val (.ref b106), .val (.ref b115), .val (.ref b130), .val (.int v25)] [])) _
                  refine XS.iconst X261.here hx rfl (hb hby at_235) ?_
                  show Steps p.tables e below (T261.setTop (mkF m 236 #[.val (.long q0), .second, .val (.long q1), .second, .val (.long q2), .second, .val (.int p3), .val (.long v2), .second, .val (.int v7), .val (.ref b106), .val (.ref b115), .val (.ref b130), .val (.int v25)] [(.int (1 : Int32))])) _
                  refine XS.goto X261.here hx rfl (pc0 := 236) (pc' := 240) rfl (hb hby at_236) (by decide) (by decide) ?_
                  exact kt
                refine own_arm hgo262 ?_
                exact own_armEnd X261 N261 e261 (by rw [hv46.trans (if_pos hc232_45)])
              · have hgo263 : ∀ t, Steps p.tables e below (T261.setTop (mkF m 240 #[.val (.long q0), .second, .val (.long q1), .second, .val (.long q2), .second, .val (.int p3), .val (.long v2), .second, .val (.int v7), .val (.ref b106), .val (.ref b115), .val (.ref b130), .val (.int v25)] [(.int (0 : Int32))])) t → Steps p.tables e below (T261.setTop (mkF m 232 #[.val (.long q0), .second, .val (.long q1), .second, .val (.long q2), .second, .val (.int p3), .val (.long v2), .second, .val (.int v7), .val (.ref b106), .val (.ref b115), .val (.ref b130), .val (.int v25)] [(.int (0 : Int32)), (.int (own_r12 (2 : Int32) v7))])) t := by
                  intro t kt
                  show Steps p.tables e below (T261.setTop (mkF m 232 #[.val (.long q0), .second, .val (.long q1), .second, .val (.long q2), .second, .val (.int p3), .val (.long v2), .second, .val (.int v7), .val (.ref b106), .val (.ref b115), .val (.ref b130), .val (.int v25)] [(.int (0 : Int32)), (.int (own_r12 (2 : Int32) v7))])) _
                  refine XS.icmpYes X261.here hx rfl (pc0 := 232) (pc' := 239) rfl (hb hby at_232) rfl (feq hc232_45).2 (by decide) (by decide) ?_
                  show Steps p.tables e below (T261.setTop (mkF m 239 #[.val (.long q0), .second, .val (.long q1), .second, .val (.long q2), .second, .val (.int p3), .val (.long v2), .second, .val (.int v7), .val (.ref b106), .val (.ref b115), .val (.ref b130), .val (.int v25)] [])) _
                  refine XS.iconst X261.here hx rfl (hb hby at_239) ?_
                  exact kt
                refine own_arm hgo263 ?_
                exact own_armEnd X261 N261 e261 (by rw [hv46.trans (if_neg hc232_45)]))
            have hgo265 : ∀ t, Steps p.tables e below (T264.setTop (mkF m 240 #[.val (.long q0), .second, .val (.long q1), .second, .val (.long q2), .second, .val (.int p3), .val (.long v2), .second, .val (.int v7), .val (.ref b106), .val (.ref b115), .val (.ref b130), .val (.int v25)] [(.int v46)])) t → Steps p.tables e below (T204.setTop (mkF m 213 #[.val (.long q0), .second, .val (.long q1), .second, .val (.long q2), .second, .val (.int p3), .val (.long v2), .second, .val (.int v7), .val (.ref b106), .val (.ref b115), .val (.ref b130), .val (.int v25)] [(.int v25)])) t := by
              intro t kt
              show Steps p.tables e below (T204.setTop (mkF m 213 #[.val (.long q0), .second, .val (.long q1), .second, .val (.long q2), .second, .val (.int p3), .val (.long v2), .second, .val (.int v7), .val (.ref b106), .val (.ref b115), .val (.ref b130), .val (.int v25)] [(.int v25)])) _
              refine XS.ifNo X204.here hx rfl (hb hby at_213) rfl ((if0 _ _).trans (feq hc213_44).1) ?_
              show Steps p.tables e below (T204.setTop (mkF m 216 #[.val (.long q0), .second, .val (.long q1), .second, .val (.long q2), .second, .val (.int p3), .val (.long v2), .second, .val (.int v7), .val (.ref b106), .val (.ref b115), .val (.ref b130), .val (.int v25)] [])) _
              refine XS.aload X204.here hx rfl (hb hby at_216) rfl rfl ?_
              show Steps p.tables e below (T204.setTop (mkF m 218 #[.val (.long q0), .second, .val (.long q1), .second, .val (.long q2), .second, .val (.int p3), .val (.long v2), .second, .val (.int v7), .val (.ref b106), .val (.ref b115), .val (.ref b130), .val (.int v25)] [(.ref b130)])) _
              refine st261.trans ?_
              show Steps p.tables e below (T261.setTop (mkF m 221 #[.val (.long q0), .second, .val (.long q1), .second, .val (.long q2), .second, .val (.int p3), .val (.long v2), .second, .val (.int v7), .val (.ref b106), .val (.ref b115), .val (.ref b130), .val (.int v25)] [(.int (own_r12 (2 : Int32) v7))])) _
              refine XS.iconst X261.here hx rfl (hb hby at_221) ?_
              show Steps p.tables e below (T261.setTop (mkF m 222 #[.val (.long q0), .second, .val (.long q1), .second, .val (.long q2), .second, .val (.int p3), .val (.long v2), .second, .val (.int v7), .val (.ref b106), .val (.ref b115), .val (.ref b130), .val (.int v25)] [(.int (3 : Int32)), (.int (own_r12 (2 : Int32) v7))])) _
              refine XS.iload X261.here hx rfl (hb hby at_222) rfl ?_
              show Steps p.tables e below (T261.setTop (mkF m 224 #[.val (.long q0), .second, .val (.long q1), .second, .val (.long q2), .second, .val (.int p3), .val (.long v2), .second, .val (.int v7), .val (.ref b106), .val (.ref b115), .val (.ref b130), .val (.int v25)] [(.int v7), (.int (3 : Int32)), (.int (own_r12 (2 : Int32) v7))])) _
              refine XS.icmpYes X261.here hx rfl (pc0 := 224) (pc' := 231) rfl (hb hby at_224) rfl (flt (by have y0 := hc202_26; simp only [Int32.lt_iff_toInt_lt, ← Int32.toInt_inj, Int32.reduceToInt] at y0 ⊢; omega : ¬ ((3 : Int32) < v7))).2.1 (by decide) (by decide) ?_
              show Steps p.tables e below (T261.setTop (mkF m 231 #[.val (.long q0), .second, .val (.long q1), .second, .val (.long q2), .second, .val (.int p3), .val (.long v2), .second, .val (.int v7), .val (.ref b106), .val (.ref b115), .val (.ref b130), .val (.int v25)] [(.int (own_r12 (2 : Int32) v7))])) _
              refine XS.iconst X261.here hx rfl (hb hby at_231) ?_
              show Steps p.tables e below (T261.setTop (mkF m 232 #[.val (.long q0), .second, .val (.long q1), .second, .val (.long q2), .second, .val (.int p3), .val (.long v2), .second, .val (.int v7), .val (.ref b106), .val (.ref b115), .val (.ref b130), .val (.int v25)] [(.int (0 : Int32)), (.int (own_r12 (2 : Int32) v7))])) _
              refine st264 _ ?_
              exact kt
            refine own_arm hgo265 ?_
            exact own_armEnd X264 N264 e264 (by rw [hv47.trans (if_neg hc213_44)]))
        obtain ⟨v50, hv50⟩ : ∃ z : Int32, z = (if v47 = (0 : Int32) then (0 : Int32) else v46) := ⟨_, rfl⟩
        obtain ⟨T273, lc273, X273, N273, e273, st273⟩ := own_mrg (n0 := n0) (h := T185.heap) (g := (mkF m 256 #[.val (.long q0), .second, .val (.long q1), .second, .val (.long q2), .second, .val (.int p3), .val (.long v2), .second, .val (.int v7), .val (.ref b106), .val (.ref b115), .val (.ref b130), .val (.int v47)] [(.int v47)])) (g' := (mkF m 283 #[.val (.long q0), .second, .val (.long q1), .second, .val (.long q2), .second, .val (.int p3), .val (.long v2), .second, .val (.int v7), .val (.ref b106), .val (.ref b115), .val (.ref b130), .val (.int v47)] [(.int v50)])) X266 (by
          by_cases hc256_48 : v47 = (0 : Int32)
          · have hgo267 : ∀ t, Steps p.tables e below (T266.setTop (mkF m 283 #[.val (.long q0), .second, .val (.long q1), .second, .val (.long q2), .second, .val (.int p3), .val (.long v2), .second, .val (.int v7), .val (.ref b106), .val (.ref b115), .val (.ref b130), .val (.int v47)] [(.int (0 : Int32))])) t → Steps p.tables e below (T266.setTop (mkF m 256 #[.val (.long q0), .second, .val (.long q1), .second, .val (.long q2), .second, .val (.int p3), .val (.long v2), .second, .val (.int v7), .val (.ref b106), .val (.ref b115), .val (.ref b130), .val (.int v47)] [(.int v47)])) t := by
              intro t kt
              show Steps p.tables e below (T266.setTop (mkF m 256 #[.val (.long q0), .second, .val (.long q1), .second, .val (.long q2), .second, .val (.int p3), .val (.long v2), .second, .val (.int v7), .val (.ref b106), .val (.ref b115), .val (.ref b130), .val (.int v47)] [(.int v47)])) _
              refine XS.ifYes X266.here hx rfl (pc0 := 256) (pc' := 282) rfl (hb hby at_256) rfl ((if0 _ _).trans (teq hc256_48).1) (by decide) (by decide) ?_
              show Steps p.tables e below (T266.setTop (mkF m 282 #[.val (.long q0), .second, .val (.long q1), .second, .val (.long q2), .second, .val (.int p3), .val (.long v2), .second, .val (.int v7), .val (.ref b106), .val (.ref b115), .val (.ref b130), .val (.int v47)] [])) _
              refine XS.iconst X266.here hx rfl (hb hby at_282) ?_
              exact kt
            refine own_arm hgo267 ?_
            exact own_armEnd X266 N266 e266 (by rw [hv50.trans (if_pos hc256_48)])
          · obtain ⟨cq268, kq268, q268a, q268b, q268c⟩ := isOf hZ e266 F185_0
            obtain ⟨_, _, ⟨T268, L268, k268, n268⟩, -, X268, ⟨Lc268, hQ268, l268, y268, z268⟩, st268⟩ := X266.virtualBack hx (y := (⟨"com/example/upper_falls/upperfalls/KeyPositions", "hasNext", "()Z"⟩ : MethodName)) (z := (⟨"com/example/upper_falls/upperfalls/KeyPositions", "hasNext", "()Z"⟩ : MethodName)) hown (mvT hZ (hw _ (List.mem_of_getElem? (i := 74) rfl))) (mvT hZ (hw _ (List.mem_of_getElem? (i := 75) rfl))) (notFace_of_selects (args := #[]) (mvT hZ (hw _ (List.mem_of_getElem? (i := 77) rfl)))) (mvT hZ (hw _ (List.mem_of_getElem? (i := 77) rfl))) (mvT hZ (hw _ (List.mem_of_getElem? (i := 76) rfl))) (by decide) (backOf (W := 0) (rm12 l Z a0 hw [] b130 (2 : Int32) v7 (T185.heap) n0 Z193 F185_1f F185_2) hZ (hw _ (List.mem_of_getElem? (i := 78) rfl)) (hw _ (List.mem_of_getElem? (i := 36) rfl)) (by decide) (by decide)) q268a q268c (g := (mkF m 261 #[.val (.long q0), .second, .val (.long q1), .second, .val (.long q2), .second, .val (.int p3), .val (.long v2), .second, .val (.int v7), .val (.ref b106), .val (.ref b115), .val (.ref b130), .val (.int v47)] [(.ref b130)])) rfl (by rw [hml]; rfl) (Steps.refl _) (argsL := []) (rest := []) (lenOf pd13 rfl) rfl (by show 2 * 0 + _ ≤ _; exact Nat.le_of_eq rfl) (hb hby at_261) (fun _ _ => ⟨rfl, e266, (by decide : 3 + 0 ≤ _), (by decide : 9 + 0 ≤ _)⟩)
            dsimp only [Pt.U, Pt.locs, Pt.cells, Pt.slots] at X268 l268 y268 z268 st268 hQ268
            subst l268 y268 z268
            obtain ⟨rfl, N268q, e268⟩ := hQ268
            have N268 := Fr.app N266 N268q
            obtain ⟨T271, lc271, X271, N271, e271, st271⟩ := own_mrg (n0 := n0) (h := T185.heap) (g := (mkF m 275 #[.val (.long q0), .second, .val (.long q1), .second, .val (.long q2), .second, .val (.int p3), .val (.long v2), .second, .val (.int v7), .val (.ref b106), .val (.ref b115), .val (.ref b130), .val (.int v47)] [(.int (0 : Int32)), (.int (own_r12 (2 : Int32) v7))])) (g' := (mkF m 283 #[.val (.long q0), .second, .val (.long q1), .second, .val (.long q2), .second, .val (.int p3), .val (.long v2), .second, .val (.int v7), .val (.ref b106), .val (.ref b115), .val (.ref b130), .val (.int v47)] [(.int v46)])) X268 (by
              by_cases hc275_49 : (own_r12 (2 : Int32) v7) = (0 : Int32)
              · have hgo269 : ∀ t, Steps p.tables e below (T268.setTop (mkF m 283 #[.val (.long q0), .second, .val (.long q1), .second, .val (.long q2), .second, .val (.int p3), .val (.long v2), .second, .val (.int v7), .val (.ref b106), .val (.ref b115), .val (.ref b130), .val (.int v47)] [(.int (1 : Int32))])) t → Steps p.tables e below (T268.setTop (mkF m 275 #[.val (.long q0), .second, .val (.long q1), .second, .val (.long q2), .second, .val (.int p3), .val (.long v2), .second, .val (.int v7), .val (.ref b106), .val (.ref b115), .val (.ref b130), .val (.int v47)] [(.int (0 : Int32)), (.int (own_r12 (2 : Int32) v7))])) t := by
                  intro t kt
                  show Steps p.tables e below (T268.setTop (mkF m 275 #[.val (.long q0), .second, .val (.long q1), .second, .val (.long q2), .second, .val (.int p3), .val (.long v2), .second, .val (.int v7), .val (.ref b106), .val (.ref b115), .val (.ref b130), .val (.int v47)] [(.int (0 : Int32)), (.int (own_r12 (2 : Int32) v7))])) _
                  refine XS.icmpNo X268.here hx rfl (hb hby at_275) rfl (teq hc275_49).2 ?_
                  show Steps p.tables e below (T268.setTop (mkF m 278 #[.val (.long q0), .second, .val (.long q1), .second, .val (.long q2), .second, .val (.int p3), .val (.long v2), .second, .val (.int v7), .val (.ref b106), .val (.ref b115), .val (.ref b130), .val (.int v47)] [])) _
                  refine XS.iconst X268.here hx rfl (hb hby at_278) ?_
                  show Steps p.tables e below (T268.setTop (mkF m 279 #[.val (.long q0), .second, .val (.long q1), .second, .val (.long q2), .second, .val (.int p3), .val (.long v2), .second, .val (.int v7), .val (.ref b106), .val (.ref b115), .val (.ref b130), .val (.int v47)] [(.int (1 : Int32))])) _
                  refine XS.goto X268.here hx rfl (pc0 := 279) (pc' := 283) rfl (hb hby at_279) (by decide) (by decide) ?_
                  exact kt
                refine own_arm hgo269 ?_
                exact own_armEnd X268 N268 e268 (by rw [hv46.trans (if_pos hc275_49)])
              · have hgo270 : ∀ t, Steps p.tables e below (T268.setTop (mkF m 283 #[.val (.long q0), .second, .val (.long q1), .second, .val (.long q2), .second, .val (.int p3), .val (.long v2), .second, .val (.int v7), .val (.ref b106), .val (.ref b115), .val (.ref b130), .val (.int v47)] [(.int (0 : Int32))])) t → Steps p.tables e below (T268.setTop (mkF m 275 #[.val (.long q0), .second, .val (.long q1), .second, .val (.long q2), .second, .val (.int p3), .val (.long v2), .second, .val (.int v7), .val (.ref b106), .val (.ref b115), .val (.ref b130), .val (.int v47)] [(.int (0 : Int32)), (.int (own_r12 (2 : Int32) v7))])) t := by
                  intro t kt
                  show Steps p.tables e below (T268.setTop (mkF m 275 #[.val (.long q0), .second, .val (.long q1), .second, .val (.long q2), .second, .val (.int p3), .val (.long v2), .second, .val (.int v7), .val (.ref b106), .val (.ref b115), .val (.ref b130), .val (.int v47)] [(.int (0 : Int32)), (.int (own_r12 (2 : Int32) v7))])) _
                  refine XS.icmpYes X268.here hx rfl (pc0 := 275) (pc' := 282) rfl (hb hby at_275) rfl (feq hc275_49).2 (by decide) (by decide) ?_
                  show Steps p.tables e below (T268.setTop (mkF m 282 #[.val (.long q0), .second, .val (.long q1), .second, .val (.long q2), .second, .val (.int p3), .val (.long v2), .second, .val (.int v7), .val (.ref b106), .val (.ref b115), .val (.ref b130), .val (.int v47)] [])) _
                  refine XS.iconst X268.here hx rfl (hb hby at_282) ?_
                  exact kt
                refine own_arm hgo270 ?_
                exact own_armEnd X268 N268 e268 (by rw [hv46.trans (if_neg hc275_49)]))
            have hgo272 : ∀ t, Steps p.tables e below (T271.setTop (mkF m 283 #[.val (.long q0), .second, .val (.long q1), .second, .val (.long q2), .second, .val (.int p3), .val (.long v2), .second, .val (.int v7), .val (.ref b106), .val (.ref b115), .val (.ref b130), .val (.int v47)] [(.int v46)])) t → Steps p.tables e below (T266.setTop (mkF m 256 #[.val (.long q0), .second, .val (.long q1), .second, .val (.long q2), .second, .val (.int p3), .val (.long v2), .second, .val (.int v7), .val (.ref b106), .val (.ref b115), .val (.ref b130), .val (.int v47)] [(.int v47)])) t := by
              intro t kt
              show Steps p.tables e below (T266.setTop (mkF m 256 #[.val (.long q0), .second, .val (.long q1), .second, .val (.long q2), .second, .val (.int p3), .val (.long v2), .second, .val (.int v7), .val (.ref b106), .val (.ref b115), .val (.ref b130), .val (.int v47)] [(.int v47)])) _
              refine XS.ifNo X266.here hx rfl (hb hby at_256) rfl ((if0 _ _).trans (feq hc256_48).1) ?_
              show Steps p.tables e below (T266.setTop (mkF m 259 #[.val (.long q0), .second, .val (.long q1), .second, .val (.long q2), .second, .val (.int p3), .val (.long v2), .second, .val (.int v7), .val (.ref b106), .val (.ref b115), .val (.ref b130), .val (.int v47)] [])) _
              refine XS.aload X266.here hx rfl (hb hby at_259) rfl rfl ?_
              show Steps p.tables e below (T266.setTop (mkF m 261 #[.val (.long q0), .second, .val (.long q1), .second, .val (.long q2), .second, .val (.int p3), .val (.long v2), .second, .val (.int v7), .val (.ref b106), .val (.ref b115), .val (.ref b130), .val (.int v47)] [(.ref b130)])) _
              refine st268.trans ?_
              show Steps p.tables e below (T268.setTop (mkF m 264 #[.val (.long q0), .second, .val (.long q1), .second, .val (.long q2), .second, .val (.int p3), .val (.long v2), .second, .val (.int v7), .val (.ref b106), .val (.ref b115), .val (.ref b130), .val (.int v47)] [(.int (own_r12 (2 : Int32) v7))])) _
              refine XS.iconst X268.here hx rfl (hb hby at_264) ?_
              show Steps p.tables e below (T268.setTop (mkF m 265 #[.val (.long q0), .second, .val (.long q1), .second, .val (.long q2), .second, .val (.int p3), .val (.long v2), .second, .val (.int v7), .val (.ref b106), .val (.ref b115), .val (.ref b130), .val (.int v47)] [(.int (4 : Int32)), (.int (own_r12 (2 : Int32) v7))])) _
              refine XS.iload X268.here hx rfl (hb hby at_265) rfl ?_
              show Steps p.tables e below (T268.setTop (mkF m 267 #[.val (.long q0), .second, .val (.long q1), .second, .val (.long q2), .second, .val (.int p3), .val (.long v2), .second, .val (.int v7), .val (.ref b106), .val (.ref b115), .val (.ref b130), .val (.int v47)] [(.int v7), (.int (4 : Int32)), (.int (own_r12 (2 : Int32) v7))])) _
              refine XS.icmpYes X268.here hx rfl (pc0 := 267) (pc' := 274) rfl (hb hby at_267) rfl (flt (by have y0 := hc202_26; simp only [Int32.lt_iff_toInt_lt, ← Int32.toInt_inj, Int32.reduceToInt] at y0 ⊢; omega : ¬ ((4 : Int32) < v7))).2.1 (by decide) (by decide) ?_
              show Steps p.tables e below (T268.setTop (mkF m 274 #[.val (.long q0), .second, .val (.long q1), .second, .val (.long q2), .second, .val (.int p3), .val (.long v2), .second, .val (.int v7), .val (.ref b106), .val (.ref b115), .val (.ref b130), .val (.int v47)] [(.int (own_r12 (2 : Int32) v7))])) _
              refine XS.iconst X268.here hx rfl (hb hby at_274) ?_
              show Steps p.tables e below (T268.setTop (mkF m 275 #[.val (.long q0), .second, .val (.long q1), .second, .val (.long q2), .second, .val (.int p3), .val (.long v2), .second, .val (.int v7), .val (.ref b106), .val (.ref b115), .val (.ref b130), .val (.int v47)] [(.int (0 : Int32)), (.int (own_r12 (2 : Int32) v7))])) _
              refine st271 _ ?_
              exact kt
            refine own_arm hgo272 ?_
            exact own_armEnd X271 N271 e271 (by rw [hv50.trans (if_neg hc256_48)]))
        have hgo274 : ∀ t, Steps p.tables e below (T273.setTop (mkF m 287 #[.val (.long q0), .second, .val (.long q1), .second, .val (.long q2), .second, .val (.int p3), .val (.long v2), .second, .val (.int v7), .val (.ref b106), .val (.ref b115), .val (.ref b130), .val (.int v50)] [(.int v50)])) t → Steps p.tables e below (T204.setTop (mkF m 202 #[.val (.long q0), .second, .val (.long q1), .second, .val (.long q2), .second, .val (.int p3), .val (.long v2), .second, .val (.int v7), .val (.ref b106), .val (.ref b115), .val (.ref b130), .val (.int v25)] [(.int v7), (.int (2 : Int32))])) t := by
          intro t kt
          show Steps p.tables e below (T204.setTop (mkF m 202 #[.val (.long q0), .second, .val (.long q1), .second, .val (.long q2), .second, .val (.int p3), .val (.long v2), .second, .val (.int v7), .val (.ref b106), .val (.ref b115), .val (.ref b130), .val (.int v25)] [(.int v7), (.int (2 : Int32))])) _
          refine XS.icmpYes X204.here hx rfl (pc0 := 202) (pc' := 211) rfl (hb hby at_202) rfl (flt hc202_26).2.1 (by decide) (by decide) ?_
          show Steps p.tables e below (T204.setTop (mkF m 211 #[.val (.long q0), .second, .val (.long q1), .second, .val (.long q2), .second, .val (.int p3), .val (.long v2), .second, .val (.int v7), .val (.ref b106), .val (.ref b115), .val (.ref b130), .val (.int v25)] [])) _
          refine XS.iload X204.here hx rfl (hb hby at_211) rfl ?_
          show Steps p.tables e below (T204.setTop (mkF m 213 #[.val (.long q0), .second, .val (.long q1), .second, .val (.long q2), .second, .val (.int p3), .val (.long v2), .second, .val (.int v7), .val (.ref b106), .val (.ref b115), .val (.ref b130), .val (.int v25)] [(.int v25)])) _
          refine st266 _ ?_
          show Steps p.tables e below (T266.setTop (mkF m 240 #[.val (.long q0), .second, .val (.long q1), .second, .val (.long q2), .second, .val (.int p3), .val (.long v2), .second, .val (.int v7), .val (.ref b106), .val (.ref b115), .val (.ref b130), .val (.int v25)] [(.int v47)])) _
          refine XS.istore X266.here hx rfl (hb hby at_240) rfl (l' := #[.val (.long q0), .second, .val (.long q1), .second, .val (.long q2), .second, .val (.int p3), .val (.long v2), .second, .val (.int v7), .val (.ref b106), .val (.ref b115), .val (.ref b130), .val (.int v47)]) rfl ?_
          show Steps p.tables e below (T266.setTop (mkF m 242 #[.val (.long q0), .second, .val (.long q1), .second, .val (.long q2), .second, .val (.int p3), .val (.long v2), .second, .val (.int v7), .val (.ref b106), .val (.ref b115), .val (.ref b130), .val (.int v47)] [])) _
          refine XS.iconst X266.here hx rfl (hb hby at_242) ?_
          show Steps p.tables e below (T266.setTop (mkF m 243 #[.val (.long q0), .second, .val (.long q1), .second, .val (.long q2), .second, .val (.int p3), .val (.long v2), .second, .val (.int v7), .val (.ref b106), .val (.ref b115), .val (.ref b130), .val (.int v47)] [(.int (3 : Int32))])) _
          refine XS.iload X266.here hx rfl (hb hby at_243) rfl ?_
          show Steps p.tables e below (T266.setTop (mkF m 245 #[.val (.long q0), .second, .val (.long q1), .second, .val (.long q2), .second, .val (.int p3), .val (.long v2), .second, .val (.int v7), .val (.ref b106), .val (.ref b115), .val (.ref b130), .val (.int v47)] [(.int v7), (.int (3 : Int32))])) _
          refine XS.icmpYes X266.here hx rfl (pc0 := 245) (pc' := 254) rfl (hb hby at_245) rfl (flt (by have y0 := hc202_26; simp only [Int32.lt_iff_toInt_lt, ← Int32.toInt_inj, Int32.reduceToInt] at y0 ⊢; omega : ¬ ((3 : Int32) < v7))).2.1 (by decide) (by decide) ?_
          show Steps p.tables e below (T266.setTop (mkF m 254 #[.val (.long q0), .second, .val (.long q1), .second, .val (.long q2), .second, .val (.int p3), .val (.long v2), .second, .val (.int v7), .val (.ref b106), .val (.ref b115), .val (.ref b130), .val (.int v47)] [])) _
          refine XS.iload X266.here hx rfl (hb hby at_254) rfl ?_
          show Steps p.tables e below (T266.setTop (mkF m 256 #[.val (.long q0), .second, .val (.long q1), .second, .val (.long q2), .second, .val (.int p3), .val (.long v2), .second, .val (.int v7), .val (.ref b106), .val (.ref b115), .val (.ref b130), .val (.int v47)] [(.int v47)])) _
          refine st273 _ ?_
          show Steps p.tables e below (T273.setTop (mkF m 283 #[.val (.long q0), .second, .val (.long q1), .second, .val (.long q2), .second, .val (.int p3), .val (.long v2), .second, .val (.int v7), .val (.ref b106), .val (.ref b115), .val (.ref b130), .val (.int v47)] [(.int v50)])) _
          refine XS.istore X273.here hx rfl (hb hby at_283) rfl (l' := #[.val (.long q0), .second, .val (.long q1), .second, .val (.long q2), .second, .val (.int p3), .val (.long v2), .second, .val (.int v7), .val (.ref b106), .val (.ref b115), .val (.ref b130), .val (.int v50)]) rfl ?_
          show Steps p.tables e below (T273.setTop (mkF m 285 #[.val (.long q0), .second, .val (.long q1), .second, .val (.long q2), .second, .val (.int p3), .val (.long v2), .second, .val (.int v7), .val (.ref b106), .val (.ref b115), .val (.ref b130), .val (.int v50)] [])) _
          refine XS.iload X273.here hx rfl (hb hby at_285) rfl ?_
          exact kt
        refine own_go hgo274 ?_
        have hz275 : v50 = 1 := own_leaf2 (q0 := q0) (q1 := q1) (q2 := q2) (p3 := p3) hv1 hv2 hv4 hv5 hv6 hv7 hv9 hv11 hv15 hv17 hv18 hv22 hv24 hv25 hv46 hv47 hv50 hc116_12 hc159_19 hc202_26
        exact own_retZ X273 hx Bd.returns Bd.notSynchronized (hb hby at_287) (by decide) (by decide) (Or.inr hz275) ⟨by rw [hz275], N273⟩
    · obtain ⟨v53, hv53⟩ : ∃ z : Int32, z = (if (own_r12 (1 : Int32) v7) = (0 : Int32) then (1 : Int32) else (0 : Int32)) := ⟨_, rfl⟩
      obtain ⟨v54, hv54⟩ : ∃ z : Int32, z = (if v18 = (0 : Int32) then (0 : Int32) else v53) := ⟨_, rfl⟩
      obtain ⟨T282, lc282, X282, N282, e282, st282⟩ := own_mrg (n0 := n0) (h := T163.heap) (g := (mkF m 170 #[.val (.long q0), .second, .val (.long q1), .second, .val (.long q2), .second, .val (.int p3), .val (.long v2), .second, .val (.int v7), .val (.ref b106), .val (.ref b115), .val (.ref b130), .val (.int v18)] [(.int v18)])) (g' := (mkF m 197 #[.val (.long q0), .second, .val (.long q1), .second, .val (.long q2), .second, .val (.int p3), .val (.long v2), .second, .val (.int v7), .val (.ref b106), .val (.ref b115), .val (.ref b130), .val (.int v18)] [(.int v54)])) X182 (by
        by_cases hc170_51 : v18 = (0 : Int32)
        · have hgo276 : ∀ t, Steps p.tables e below (T182.setTop (mkF m 197 #[.val (.long q0), .second, .val (.long q1), .second, .val (.long q2), .second, .val (.int p3), .val (.long v2), .second, .val (.int v7), .val (.ref b106), .val (.ref b115), .val (.ref b130), .val (.int v18)] [(.int (0 : Int32))])) t → Steps p.tables e below (T182.setTop (mkF m 170 #[.val (.long q0), .second, .val (.long q1), .second, .val (.long q2), .second, .val (.int p3), .val (.long v2), .second, .val (.int v7), .val (.ref b106), .val (.ref b115), .val (.ref b130), .val (.int v18)] [(.int v18)])) t := by
            intro t kt
            show Steps p.tables e below (T182.setTop (mkF m 170 #[.val (.long q0), .second, .val (.long q1), .second, .val (.long q2), .second, .val (.int p3), .val (.long v2), .second, .val (.int v7), .val (.ref b106), .val (.ref b115), .val (.ref b130), .val (.int v18)] [(.int v18)])) _
            refine XS.ifYes X182.here hx rfl (pc0 := 170) (pc' := 196) rfl (hb hby at_170) rfl ((if0 _ _).trans (teq hc170_51).1) (by decide) (by decide) ?_
            show Steps p.tables e below (T182.setTop (mkF m 196 #[.val (.long q0), .second, .val (.long q1), .second, .val (.long q2), .second, .val (.int p3), .val (.long v2), .second, .val (.int v7), .val (.ref b106), .val (.ref b115), .val (.ref b130), .val (.int v18)] [])) _
            refine XS.iconst X182.here hx rfl (hb hby at_196) ?_
            exact kt
          refine own_arm hgo276 ?_
          exact own_armEnd X182 N182 e182 (by rw [hv54.trans (if_pos hc170_51)])
        · obtain ⟨cq277, kq277, q277a, q277b, q277c⟩ := isOf hZ e182 F163_0
          obtain ⟨_, _, ⟨T277, L277, k277, n277⟩, -, X277, ⟨Lc277, hQ277, l277, y277, z277⟩, st277⟩ := X182.virtualBack hx (y := (⟨"com/example/upper_falls/upperfalls/KeyPositions", "hasNext", "()Z"⟩ : MethodName)) (z := (⟨"com/example/upper_falls/upperfalls/KeyPositions", "hasNext", "()Z"⟩ : MethodName)) hown (mvT hZ (hw _ (List.mem_of_getElem? (i := 74) rfl))) (mvT hZ (hw _ (List.mem_of_getElem? (i := 75) rfl))) (notFace_of_selects (args := #[]) (mvT hZ (hw _ (List.mem_of_getElem? (i := 77) rfl)))) (mvT hZ (hw _ (List.mem_of_getElem? (i := 77) rfl))) (mvT hZ (hw _ (List.mem_of_getElem? (i := 76) rfl))) (by decide) (backOf (W := 0) (rm12 l Z a0 hw [] b130 (1 : Int32) v7 (T163.heap) n0 Z171 F163_1f F163_2) hZ (hw _ (List.mem_of_getElem? (i := 78) rfl)) (hw _ (List.mem_of_getElem? (i := 36) rfl)) (by decide) (by decide)) q277a q277c (g := (mkF m 175 #[.val (.long q0), .second, .val (.long q1), .second, .val (.long q2), .second, .val (.int p3), .val (.long v2), .second, .val (.int v7), .val (.ref b106), .val (.ref b115), .val (.ref b130), .val (.int v18)] [(.ref b130)])) rfl (by rw [hml]; rfl) (Steps.refl _) (argsL := []) (rest := []) (lenOf pd13 rfl) rfl (by show 2 * 0 + _ ≤ _; exact Nat.le_of_eq rfl) (hb hby at_175) (fun _ _ => ⟨rfl, e182, (by decide : 3 + 0 ≤ _), (by decide : 9 + 0 ≤ _)⟩)
          dsimp only [Pt.U, Pt.locs, Pt.cells, Pt.slots] at X277 l277 y277 z277 st277 hQ277
          subst l277 y277 z277
          obtain ⟨rfl, N277q, e277⟩ := hQ277
          have N277 := Fr.app N182 N277q
          obtain ⟨T280, lc280, X280, N280, e280, st280⟩ := own_mrg (n0 := n0) (h := T163.heap) (g := (mkF m 189 #[.val (.long q0), .second, .val (.long q1), .second, .val (.long q2), .second, .val (.int p3), .val (.long v2), .second, .val (.int v7), .val (.ref b106), .val (.ref b115), .val (.ref b130), .val (.int v18)] [(.int (0 : Int32)), (.int (own_r12 (1 : Int32) v7))])) (g' := (mkF m 197 #[.val (.long q0), .second, .val (.long q1), .second, .val (.long q2), .second, .val (.int p3), .val (.long v2), .second, .val (.int v7), .val (.ref b106), .val (.ref b115), .val (.ref b130), .val (.int v18)] [(.int v53)])) X277 (by
            by_cases hc189_52 : (own_r12 (1 : Int32) v7) = (0 : Int32)
            · have hgo278 : ∀ t, Steps p.tables e below (T277.setTop (mkF m 197 #[.val (.long q0), .second, .val (.long q1), .second, .val (.long q2), .second, .val (.int p3), .val (.long v2), .second, .val (.int v7), .val (.ref b106), .val (.ref b115), .val (.ref b130), .val (.int v18)] [(.int (1 : Int32))])) t → Steps p.tables e below (T277.setTop (mkF m 189 #[.val (.long q0), .second, .val (.long q1), .second, .val (.long q2), .second, .val (.int p3), .val (.long v2), .second, .val (.int v7), .val (.ref b106), .val (.ref b115), .val (.ref b130), .val (.int v18)] [(.int (0 : Int32)), (.int (own_r12 (1 : Int32) v7))])) t := by
                intro t kt
                show Steps p.tables e below (T277.setTop (mkF m 189 #[.val (.long q0), .second, .val (.long q1), .second, .val (.long q2), .second, .val (.int p3), .val (.long v2), .second, .val (.int v7), .val (.ref b106), .val (.ref b115), .val (.ref b130), .val (.int v18)] [(.int (0 : Int32)), (.int (own_r12 (1 : Int32) v7))])) _
                refine XS.icmpNo X277.here hx rfl (hb hby at_189) rfl (teq hc189_52).2 ?_
                show Steps p.tables e below (T277.setTop (mkF m 192 #[.val (.long q0), .second, .val (.long q1), .second, .val (.long q2), .second, .val (.int p3), .val (.long v2), .second, .val (.int v7), .val (.ref b106), .val (.ref b115), .val (.ref b130), .val (.int v18)] [])) _
                refine XS.iconst X277.here hx rfl (hb hby at_192) ?_
                show Steps p.tables e below (T277.setTop (mkF m 193 #[.val (.long q0), .second, .val (.long q1), .second, .val (.long q2), .second, .val (.int p3), .val (.long v2), .second, .val (.int v7), .val (.ref b106), .val (.ref b115), .val (.ref b130), .val (.int v18)] [(.int (1 : Int32))])) _
                refine XS.goto X277.here hx rfl (pc0 := 193) (pc' := 197) rfl (hb hby at_193) (by decide) (by decide) ?_
                exact kt
              refine own_arm hgo278 ?_
              exact own_armEnd X277 N277 e277 (by rw [hv53.trans (if_pos hc189_52)])
            · have hgo279 : ∀ t, Steps p.tables e below (T277.setTop (mkF m 197 #[.val (.long q0), .second, .val (.long q1), .second, .val (.long q2), .second, .val (.int p3), .val (.long v2), .second, .val (.int v7), .val (.ref b106), .val (.ref b115), .val (.ref b130), .val (.int v18)] [(.int (0 : Int32))])) t → Steps p.tables e below (T277.setTop (mkF m 189 #[.val (.long q0), .second, .val (.long q1), .second, .val (.long q2), .second, .val (.int p3), .val (.long v2), .second, .val (.int v7), .val (.ref b106), .val (.ref b115), .val (.ref b130), .val (.int v18)] [(.int (0 : Int32)), (.int (own_r12 (1 : Int32) v7))])) t := by
                intro t kt
                show Steps p.tables e below (T277.setTop (mkF m 189 #[.val (.long q0), .second, .val (.long q1), .second, .val (.long q2), .second, .val (.int p3), .val (.long v2), .second, .val (.int v7), .val (.ref b106), .val (.ref b115), .val (.ref b130), .val (.int v18)] [(.int (0 : Int32)), (.int (own_r12 (1 : Int32) v7))])) _
                refine XS.icmpYes X277.here hx rfl (pc0 := 189) (pc' := 196) rfl (hb hby at_189) rfl (feq hc189_52).2 (by decide) (by decide) ?_
                show Steps p.tables e below (T277.setTop (mkF m 196 #[.val (.long q0), .second, .val (.long q1), .second, .val (.long q2), .second, .val (.int p3), .val (.long v2), .second, .val (.int v7), .val (.ref b106), .val (.ref b115), .val (.ref b130), .val (.int v18)] [])) _
                refine XS.iconst X277.here hx rfl (hb hby at_196) ?_
                exact kt
              refine own_arm hgo279 ?_
              exact own_armEnd X277 N277 e277 (by rw [hv53.trans (if_neg hc189_52)]))
          have hgo281 : ∀ t, Steps p.tables e below (T280.setTop (mkF m 197 #[.val (.long q0), .second, .val (.long q1), .second, .val (.long q2), .second, .val (.int p3), .val (.long v2), .second, .val (.int v7), .val (.ref b106), .val (.ref b115), .val (.ref b130), .val (.int v18)] [(.int v53)])) t → Steps p.tables e below (T182.setTop (mkF m 170 #[.val (.long q0), .second, .val (.long q1), .second, .val (.long q2), .second, .val (.int p3), .val (.long v2), .second, .val (.int v7), .val (.ref b106), .val (.ref b115), .val (.ref b130), .val (.int v18)] [(.int v18)])) t := by
            intro t kt
            show Steps p.tables e below (T182.setTop (mkF m 170 #[.val (.long q0), .second, .val (.long q1), .second, .val (.long q2), .second, .val (.int p3), .val (.long v2), .second, .val (.int v7), .val (.ref b106), .val (.ref b115), .val (.ref b130), .val (.int v18)] [(.int v18)])) _
            refine XS.ifNo X182.here hx rfl (hb hby at_170) rfl ((if0 _ _).trans (feq hc170_51).1) ?_
            show Steps p.tables e below (T182.setTop (mkF m 173 #[.val (.long q0), .second, .val (.long q1), .second, .val (.long q2), .second, .val (.int p3), .val (.long v2), .second, .val (.int v7), .val (.ref b106), .val (.ref b115), .val (.ref b130), .val (.int v18)] [])) _
            refine XS.aload X182.here hx rfl (hb hby at_173) rfl rfl ?_
            show Steps p.tables e below (T182.setTop (mkF m 175 #[.val (.long q0), .second, .val (.long q1), .second, .val (.long q2), .second, .val (.int p3), .val (.long v2), .second, .val (.int v7), .val (.ref b106), .val (.ref b115), .val (.ref b130), .val (.int v18)] [(.ref b130)])) _
            refine st277.trans ?_
            show Steps p.tables e below (T277.setTop (mkF m 178 #[.val (.long q0), .second, .val (.long q1), .second, .val (.long q2), .second, .val (.int p3), .val (.long v2), .second, .val (.int v7), .val (.ref b106), .val (.ref b115), .val (.ref b130), .val (.int v18)] [(.int (own_r12 (1 : Int32) v7))])) _
            refine XS.iconst X277.here hx rfl (hb hby at_178) ?_
            show Steps p.tables e below (T277.setTop (mkF m 179 #[.val (.long q0), .second, .val (.long q1), .second, .val (.long q2), .second, .val (.int p3), .val (.long v2), .second, .val (.int v7), .val (.ref b106), .val (.ref b115), .val (.ref b130), .val (.int v18)] [(.int (2 : Int32)), (.int (own_r12 (1 : Int32) v7))])) _
            refine XS.iload X277.here hx rfl (hb hby at_179) rfl ?_
            show Steps p.tables e below (T277.setTop (mkF m 181 #[.val (.long q0), .second, .val (.long q1), .second, .val (.long q2), .second, .val (.int p3), .val (.long v2), .second, .val (.int v7), .val (.ref b106), .val (.ref b115), .val (.ref b130), .val (.int v18)] [(.int v7), (.int (2 : Int32)), (.int (own_r12 (1 : Int32) v7))])) _
            refine XS.icmpYes X277.here hx rfl (pc0 := 181) (pc' := 188) rfl (hb hby at_181) rfl (flt (by have y0 := hc159_19; simp only [Int32.lt_iff_toInt_lt, ← Int32.toInt_inj, Int32.reduceToInt] at y0 ⊢; omega : ¬ ((2 : Int32) < v7))).2.1 (by decide) (by decide) ?_
            show Steps p.tables e below (T277.setTop (mkF m 188 #[.val (.long q0), .second, .val (.long q1), .second, .val (.long q2), .second, .val (.int p3), .val (.long v2), .second, .val (.int v7), .val (.ref b106), .val (.ref b115), .val (.ref b130), .val (.int v18)] [(.int (own_r12 (1 : Int32) v7))])) _
            refine XS.iconst X277.here hx rfl (hb hby at_188) ?_
            show Steps p.tables e below (T277.setTop (mkF m 189 #[.val (.long q0), .second, .val (.long q1), .second, .val (.long q2), .second, .val (.int p3), .val (.long v2), .second, .val (.int v7), .val (.ref b106), .val (.ref b115), .val (.ref b130), .val (.int v18)] [(.int (0 : Int32)), (.int (own_r12 (1 : Int32) v7))])) _
            refine st280 _ ?_
            exact kt
          refine own_arm hgo281 ?_
          exact own_armEnd X280 N280 e280 (by rw [hv54.trans (if_neg hc170_51)]))
      obtain ⟨v57, hv57⟩ : ∃ z : Int32, z = (if v54 = (0 : Int32) then (0 : Int32) else v53) := ⟨_, rfl⟩
      obtain ⟨T289, lc289, X289, N289, e289, st289⟩ := own_mrg (n0 := n0) (h := T163.heap) (g := (mkF m 213 #[.val (.long q0), .second, .val (.long q1), .second, .val (.long q2), .second, .val (.int p3), .val (.long v2), .second, .val (.int v7), .val (.ref b106), .val (.ref b115), .val (.ref b130), .val (.int v54)] [(.int v54)])) (g' := (mkF m 240 #[.val (.long q0), .second, .val (.long q1), .second, .val (.long q2), .second, .val (.int p3), .val (.long v2), .second, .val (.int v7), .val (.ref b106), .val (.ref b115), .val (.ref b130), .val (.int v54)] [(.int v57)])) X282 (by
        by_cases hc213_55 : v54 = (0 : Int32)
        · have hgo283 : ∀ t, Steps p.tables e below (T282.setTop (mkF m 240 #[.val (.long q0), .second, .val (.long q1), .second, .val (.long q2), .second, .val (.int p3), .val (.long v2), .second, .val (.int v7), .val (.ref b106), .val (.ref b115), .val (.ref b130), .val (.int v54)] [(.int (0 : Int32))])) t → Steps p.tables e below (T282.setTop (mkF m 213 #[.val (.long q0), .second, .val (.long q1), .second, .val (.long q2), .second, .val (.int p3), .val (.long v2), .second, .val (.int v7), .val (.ref b106), .val (.ref b115), .val (.ref b130), .val (.int v54)] [(.int v54)])) t := by
            intro t kt
            show Steps p.tables e below (T282.setTop (mkF m 213 #[.val (.long q0), .second, .val (.long q1), .second, .val (.long q2), .second, .val (.int p3), .val (.long v2), .second, .val (.int v7), .val (.ref b106), .val (.ref b115), .val (.ref b130), .val (.int v54)] [(.int v54)])) _
            refine XS.ifYes X282.here hx rfl (pc0 := 213) (pc' := 239) rfl (hb hby at_213) rfl ((if0 _ _).trans (teq hc213_55).1) (by decide) (by decide) ?_
            show Steps p.tables e below (T282.setTop (mkF m 239 #[.val (.long q0), .second, .val (.long q1), .second, .val (.long q2), .second, .val (.int p3), .val (.long v2), .second, .val (.int v7), .val (.ref b106), .val (.ref b115), .val (.ref b130), .val (.int v54)] [])) _
            refine XS.iconst X282.here hx rfl (hb hby at_239) ?_
            exact kt
          refine own_arm hgo283 ?_
          exact own_armEnd X282 N282 e282 (by rw [hv57.trans (if_pos hc213_55)])
        · obtain ⟨cq284, kq284, q284a, q284b, q284c⟩ := isOf hZ e282 F163_0
          obtain ⟨_, _, ⟨T284, L284, k284, n284⟩, -, X284, ⟨Lc284, hQ284, l284, y284, z284⟩, st284⟩ := X282.virtualBack hx (y := (⟨"com/example/upper_falls/upperfalls/KeyPositions", "hasNext", "()Z"⟩ : MethodName)) (z := (⟨"com/example/upper_falls/upperfalls/KeyPositions", "hasNext", "()Z"⟩ : MethodName)) hown (mvT hZ (hw _ (List.mem_of_getElem? (i := 74) rfl))) (mvT hZ (hw _ (List.mem_of_getElem? (i := 75) rfl))) (notFace_of_selects (args := #[]) (mvT hZ (hw _ (List.mem_of_getElem? (i := 77) rfl)))) (mvT hZ (hw _ (List.mem_of_getElem? (i := 77) rfl))) (mvT hZ (hw _ (List.mem_of_getElem? (i := 76) rfl))) (by decide) (backOf (W := 0) (rm12 l Z a0 hw [] b130 (1 : Int32) v7 (T163.heap) n0 Z171 F163_1f F163_2) hZ (hw _ (List.mem_of_getElem? (i := 78) rfl)) (hw _ (List.mem_of_getElem? (i := 36) rfl)) (by decide) (by decide)) q284a q284c (g := (mkF m 218 #[.val (.long q0), .second, .val (.long q1), .second, .val (.long q2), .second, .val (.int p3), .val (.long v2), .second, .val (.int v7), .val (.ref b106), .val (.ref b115), .val (.ref b130), .val (.int v54)] [(.ref b130)])) rfl (by rw [hml]; rfl) (Steps.refl _) (argsL := []) (rest := []) (lenOf pd13 rfl) rfl (by show 2 * 0 + _ ≤ _; exact Nat.le_of_eq rfl) (hb hby at_218) (fun _ _ => ⟨rfl, e282, (by decide : 3 + 0 ≤ _), (by decide : 9 + 0 ≤ _)⟩)
          dsimp only [Pt.U, Pt.locs, Pt.cells, Pt.slots] at X284 l284 y284 z284 st284 hQ284
          subst l284 y284 z284
          obtain ⟨rfl, N284q, e284⟩ := hQ284
          have N284 := Fr.app N282 N284q
          obtain ⟨T287, lc287, X287, N287, e287, st287⟩ := own_mrg (n0 := n0) (h := T163.heap) (g := (mkF m 232 #[.val (.long q0), .second, .val (.long q1), .second, .val (.long q2), .second, .val (.int p3), .val (.long v2), .second, .val (.int v7), .val (.ref b106), .val (.ref b115), .val (.ref b130), .val (.int v54)] [(.int (0 : Int32)), (.int (own_r12 (1 : Int32) v7))])) (g' := (mkF m 240 #[.val (.long q0), .second, .val (.long q1), .second, .val (.long q2), .second, .val (.int p3), .val (.long v2), .second, .val (.int v7), .val (.ref b106), .val (.ref b115), .val (.ref b130), .val (.int v54)] [(.int v53)])) X284 (by
            by_cases hc232_56 : (own_r12 (1 : Int32) v7) = (0 : Int32)
            · have hgo285 : ∀ t, Steps p.tables e below (T284.setTop (mkF m 240 #[.val (.long q0), .second, .val (.long q1), .second, .val (.long q2), .second, .val (.int p3), .val (.long v2), .second, .val (.int v7), .val (.ref b106), .val (.ref b115), .val (.ref b130), .val (.int v54)] [(.int (1 : Int32))])) t → Steps p.tables e below (T284.setTop (mkF m 232 #[.val (.long q0), .second, .val (.long q1), .second, .val (.long q2), .second, .val (.int p3), .val (.long v2), .second, .val (.int v7), .val (.ref b106), .val (.ref b115), .val (.ref b130), .val (.int v54)] [(.int (0 : Int32)), (.int (own_r12 (1 : Int32) v7))])) t := by
                intro t kt
                show Steps p.tables e below (T284.setTop (mkF m 232 #[.val (.long q0), .second, .val (.long q1), .second, .val (.long q2), .second, .val (.int p3), .val (.long v2), .second, .val (.int v7), .val (.ref b106), .val (.ref b115), .val (.ref b130), .val (.int v54)] [(.int (0 : Int32)), (.int (own_r12 (1 : Int32) v7))])) _
                refine XS.icmpNo X284.here hx rfl (hb hby at_232) rfl (teq hc232_56).2 ?_
                show Steps p.tables e below (T284.setTop (mkF m 235 #[.val (.long q0), .second, .val (.long q1), .second, .val (.long q2), .second, .val (.int p3), .val (.long v2), .second, .val (.int v7), .val (.ref b106), .val (.ref b115), .val (.ref b130), .val (.int v54)] [])) _
                refine XS.iconst X284.here hx rfl (hb hby at_235) ?_
                show Steps p.tables e below (T284.setTop (mkF m 236 #[.val (.long q0), .second, .val (.long q1), .second, .val (.long q2), .second, .val (.int p3), .val (.long v2), .second, .val (.int v7), .val (.ref b106), .val (.ref b115), .val (.ref b130), .val (.int v54)] [(.int (1 : Int32))])) _
                refine XS.goto X284.here hx rfl (pc0 := 236) (pc' := 240) rfl (hb hby at_236) (by decide) (by decide) ?_
                exact kt
              refine own_arm hgo285 ?_
              exact own_armEnd X284 N284 e284 (by rw [hv53.trans (if_pos hc232_56)])
            · have hgo286 : ∀ t, Steps p.tables e below (T284.setTop (mkF m 240 #[.val (.long q0), .second, .val (.long q1), .second, .val (.long q2), .second, .val (.int p3), .val (.long v2), .second, .val (.int v7), .val (.ref b106), .val (.ref b115), .val (.ref b130), .val (.int v54)] [(.int (0 : Int32))])) t → Steps p.tables e below (T284.setTop (mkF m 232 #[.val (.long q0), .second, .val (.long q1), .second, .val (.long q2), .second, .val (.int p3), .val (.long v2), .second, .val (.int v7), .val (.ref b106), .val (.ref b115), .val (.ref b130), .val (.int v54)] [(.int (0 : Int32)), (.int (own_r12 (1 : Int32) v7))])) t := by
                intro t kt
                show Steps p.tables e below (T284.setTop (mkF m 232 #[.val (.long q0), .second, .val (.long q1), .second, .val (.long q2), .second, .val (.int p3), .val (.long v2), .second, .val (.int v7), .val (.ref b106), .val (.ref b115), .val (.ref b130), .val (.int v54)] [(.int (0 : Int32)), (.int (own_r12 (1 : Int32) v7))])) _
                refine XS.icmpYes X284.here hx rfl (pc0 := 232) (pc' := 239) rfl (hb hby at_232) rfl (feq hc232_56).2 (by decide) (by decide) ?_
                show Steps p.tables e below (T284.setTop (mkF m 239 #[.val (.long q0), .second, .val (.long q1), .second, .val (.long q2), .second, .val (.int p3), .val (.long v2), .second, .val (.int v7), .val (.ref b106), .val (.ref b115), .val (.ref b130), .val (.int v54)] [])) _
                refine XS.iconst X284.here hx rfl (hb hby at_239) ?_
                exact kt
              refine own_arm hgo286 ?_
              exact own_armEnd X284 N284 e284 (by rw [hv53.trans (if_neg hc232_56)]))
          have hgo288 : ∀ t, Steps p.tables e below (T287.setTop (mkF m 240 #[.val (.long q0), .second, .val (.long q1), .second, .val (.long q2), .second, .val (.int p3), .val (.long v2), .second, .val (.int v7), .val (.ref b106), .val (.ref b115), .val (.ref b130), .val (.int v54)] [(.int v53)])) t → Steps p.tables e below (T282.setTop (mkF m 213 #[.val (.long q0), .second, .val (.long q1), .second, .val (.long q2), .second, .val (.int p3), .val (.long v2), .second, .val (.int v7), .val (.ref b106), .val (.ref b115), .val (.ref b130), .val (.int v54)] [(.int v54)])) t := by
            intro t kt
            show Steps p.tables e below (T282.setTop (mkF m 213 #[.val (.long q0), .second, .val (.long q1), .second, .val (.long q2), .second, .val (.int p3), .val (.long v2), .second, .val (.int v7), .val (.ref b106), .val (.ref b115), .val (.ref b130), .val (.int v54)] [(.int v54)])) _
            refine XS.ifNo X282.here hx rfl (hb hby at_213) rfl ((if0 _ _).trans (feq hc213_55).1) ?_
            show Steps p.tables e below (T282.setTop (mkF m 216 #[.val (.long q0), .second, .val (.long q1), .second, .val (.long q2), .second, .val (.int p3), .val (.long v2), .second, .val (.int v7), .val (.ref b106), .val (.ref b115), .val (.ref b130), .val (.int v54)] [])) _
            refine XS.aload X282.here hx rfl (hb hby at_216) rfl rfl ?_
            show Steps p.tables e below (T282.setTop (mkF m 218 #[.val (.long q0), .second, .val (.long q1), .second, .val (.long q2), .second, .val (.int p3), .val (.long v2), .second, .val (.int v7), .val (.ref b106), .val (.ref b115), .val (.ref b130), .val (.int v54)] [(.ref b130)])) _
            refine st284.trans ?_
            show Steps p.tables e below (T284.setTop (mkF m 221 #[.val (.long q0), .second, .val (.long q1), .second, .val (.long q2), .second, .val (.int p3), .val (.long v2), .second, .val (.int v7), .val (.ref b106), .val (.ref b115), .val (.ref b130), .val (.int v54)] [(.int (own_r12 (1 : Int32) v7))])) _
            refine XS.iconst X284.here hx rfl (hb hby at_221) ?_
            show Steps p.tables e below (T284.setTop (mkF m 222 #[.val (.long q0), .second, .val (.long q1), .second, .val (.long q2), .second, .val (.int p3), .val (.long v2), .second, .val (.int v7), .val (.ref b106), .val (.ref b115), .val (.ref b130), .val (.int v54)] [(.int (3 : Int32)), (.int (own_r12 (1 : Int32) v7))])) _
            refine XS.iload X284.here hx rfl (hb hby at_222) rfl ?_
            show Steps p.tables e below (T284.setTop (mkF m 224 #[.val (.long q0), .second, .val (.long q1), .second, .val (.long q2), .second, .val (.int p3), .val (.long v2), .second, .val (.int v7), .val (.ref b106), .val (.ref b115), .val (.ref b130), .val (.int v54)] [(.int v7), (.int (3 : Int32)), (.int (own_r12 (1 : Int32) v7))])) _
            refine XS.icmpYes X284.here hx rfl (pc0 := 224) (pc' := 231) rfl (hb hby at_224) rfl (flt (by have y0 := hc159_19; simp only [Int32.lt_iff_toInt_lt, ← Int32.toInt_inj, Int32.reduceToInt] at y0 ⊢; omega : ¬ ((3 : Int32) < v7))).2.1 (by decide) (by decide) ?_
            show Steps p.tables e below (T284.setTop (mkF m 231 #[.val (.long q0), .second, .val (.long q1), .second, .val (.long q2), .second, .val (.int p3), .val (.long v2), .second, .val (.int v7), .val (.ref b106), .val (.ref b115), .val (.ref b130), .val (.int v54)] [(.int (own_r12 (1 : Int32) v7))])) _
            refine XS.iconst X284.here hx rfl (hb hby at_231) ?_
            show Steps p.tables e below (T284.setTop (mkF m 232 #[.val (.long q0), .second, .val (.long q1), .second, .val (.long q2), .second, .val (.int p3), .val (.long v2), .second, .val (.int v7), .val (.ref b106), .val (.ref b115), .val (.ref b130), .val (.int v54)] [(.int (0 : Int32)), (.int (own_r12 (1 : Int32) v7))])) _
            refine st287 _ ?_
            exact kt
          refine own_arm hgo288 ?_
          exact own_armEnd X287 N287 e287 (by rw [hv57.trans (if_neg hc213_55)]))
      obtain ⟨v60, hv60⟩ : ∃ z : Int32, z = (if v57 = (0 : Int32) then (0 : Int32) else v53) := ⟨_, rfl⟩
      obtain ⟨T296, lc296, X296, N296, e296, st296⟩ := own_mrg (n0 := n0) (h := T163.heap) (g := (mkF m 256 #[.val (.long q0), .second, .val (.long q1), .second, .val (.long q2), .second, .val (.int p3), .val (.long v2), .second, .val (.int v7), .val (.ref b106), .val (.ref b115), .val (.ref b130), .val (.int v57)] [(.int v57)])) (g' := (mkF m 283 #[.val (.long q0), .second, .val (.long q1), .second, .val (.long q2), .second, .val (.int p3), .val (.long v2), .second, .val (.int v7), .val (.ref b106), .val (.ref b115), .val (.ref b130), .val (.int v57)] [(.int v60)])) X289 (by
        by_cases hc256_58 : v57 = (0 : Int32)
        · have hgo290 : ∀ t, Steps p.tables e below (T289.setTop (mkF m 283 #[.val (.long q0), .second, .val (.long q1), .second, .val (.long q2), .second, .val (.int p3), .val (.long v2), .second, .val (.int v7), .val (.ref b106), .val (.ref b115), .val (.ref b130), .val (.int v57)] [(.int (0 : Int32))])) t → Steps p.tables e below (T289.setTop (mkF m 256 #[.val (.long q0), .second, .val (.long q1), .second, .val (.long q2), .second, .val (.int p3), .val (.long v2), .second, .val (.int v7), .val (.ref b106), .val (.ref b115), .val (.ref b130), .val (.int v57)] [(.int v57)])) t := by
            intro t kt
            show Steps p.tables e below (T289.setTop (mkF m 256 #[.val (.long q0), .second, .val (.long q1), .second, .val (.long q2), .second, .val (.int p3), .val (.long v2), .second, .val (.int v7), .val (.ref b106), .val (.ref b115), .val (.ref b130), .val (.int v57)] [(.int v57)])) _
            refine XS.ifYes X289.here hx rfl (pc0 := 256) (pc' := 282) rfl (hb hby at_256) rfl ((if0 _ _).trans (teq hc256_58).1) (by decide) (by decide) ?_
            show Steps p.tables e below (T289.setTop (mkF m 282 #[.val (.long q0), .second, .val (.long q1), .second, .val (.long q2), .second, .val (.int p3), .val (.long v2), .second, .val (.int v7), .val (.ref b106), .val (.ref b115), .val (.ref b130), .val (.int v57)] [])) _
            refine XS.iconst X289.here hx rfl (hb hby at_282) ?_
            exact kt
          refine own_arm hgo290 ?_
          exact own_armEnd X289 N289 e289 (by rw [hv60.trans (if_pos hc256_58)])
        · obtain ⟨cq291, kq291, q291a, q291b, q291c⟩ := isOf hZ e289 F163_0
          obtain ⟨_, _, ⟨T291, L291, k291, n291⟩, -, X291, ⟨Lc291, hQ291, l291, y291, z291⟩, st291⟩ := X289.virtualBack hx (y := (⟨"com/example/upper_falls/upperfalls/KeyPositions", "hasNext", "()Z"⟩ : MethodName)) (z := (⟨"com/example/upper_falls/upperfalls/KeyPositions", "hasNext", "()Z"⟩ : MethodName)) hown (mvT hZ (hw _ (List.mem_of_getElem? (i := 74) rfl))) (mvT hZ (hw _ (List.mem_of_getElem? (i := 75) rfl))) (notFace_of_selects (args := #[]) (mvT hZ (hw _ (List.mem_of_getElem? (i := 77) rfl)))) (mvT hZ (hw _ (List.mem_of_getElem? (i := 77) rfl))) (mvT hZ (hw _ (List.mem_of_getElem? (i := 76) rfl))) (by decide) (backOf (W := 0) (rm12 l Z a0 hw [] b130 (1 : Int32) v7 (T163.heap) n0 Z171 F163_1f F163_2) hZ (hw _ (List.mem_of_getElem? (i := 78) rfl)) (hw _ (List.mem_of_getElem? (i := 36) rfl)) (by decide) (by decide)) q291a q291c (g := (mkF m 261 #[.val (.long q0), .second, .val (.long q1), .second, .val (.long q2), .second, .val (.int p3), .val (.long v2), .second, .val (.int v7), .val (.ref b106), .val (.ref b115), .val (.ref b130), .val (.int v57)] [(.ref b130)])) rfl (by rw [hml]; rfl) (Steps.refl _) (argsL := []) (rest := []) (lenOf pd13 rfl) rfl (by show 2 * 0 + _ ≤ _; exact Nat.le_of_eq rfl) (hb hby at_261) (fun _ _ => ⟨rfl, e289, (by decide : 3 + 0 ≤ _), (by decide : 9 + 0 ≤ _)⟩)
          dsimp only [Pt.U, Pt.locs, Pt.cells, Pt.slots] at X291 l291 y291 z291 st291 hQ291
          subst l291 y291 z291
          obtain ⟨rfl, N291q, e291⟩ := hQ291
          have N291 := Fr.app N289 N291q
          obtain ⟨T294, lc294, X294, N294, e294, st294⟩ := own_mrg (n0 := n0) (h := T163.heap) (g := (mkF m 275 #[.val (.long q0), .second, .val (.long q1), .second, .val (.long q2), .second, .val (.int p3), .val (.long v2), .second, .val (.int v7), .val (.ref b106), .val (.ref b115), .val (.ref b130), .val (.int v57)] [(.int (0 : Int32)), (.int (own_r12 (1 : Int32) v7))])) (g' := (mkF m 283 #[.val (.long q0), .second, .val (.long q1), .second, .val (.long q2), .second, .val (.int p3), .val (.long v2), .second, .val (.int v7), .val (.ref b106), .val (.ref b115), .val (.ref b130), .val (.int v57)] [(.int v53)])) X291 (by
            by_cases hc275_59 : (own_r12 (1 : Int32) v7) = (0 : Int32)
            · have hgo292 : ∀ t, Steps p.tables e below (T291.setTop (mkF m 283 #[.val (.long q0), .second, .val (.long q1), .second, .val (.long q2), .second, .val (.int p3), .val (.long v2), .second, .val (.int v7), .val (.ref b106), .val (.ref b115), .val (.ref b130), .val (.int v57)] [(.int (1 : Int32))])) t → Steps p.tables e below (T291.setTop (mkF m 275 #[.val (.long q0), .second, .val (.long q1), .second, .val (.long q2), .second, .val (.int p3), .val (.long v2), .second, .val (.int v7), .val (.ref b106), .val (.ref b115), .val (.ref b130), .val (.int v57)] [(.int (0 : Int32)), (.int (own_r12 (1 : Int32) v7))])) t := by
                intro t kt
                show Steps p.tables e below (T291.setTop (mkF m 275 #[.val (.long q0), .second, .val (.long q1), .second, .val (.long q2), .second, .val (.int p3), .val (.long v2), .second, .val (.int v7), .val (.ref b106), .val (.ref b115), .val (.ref b130), .val (.int v57)] [(.int (0 : Int32)), (.int (own_r12 (1 : Int32) v7))])) _
                refine XS.icmpNo X291.here hx rfl (hb hby at_275) rfl (teq hc275_59).2 ?_
                show Steps p.tables e below (T291.setTop (mkF m 278 #[.val (.long q0), .second, .val (.long q1), .second, .val (.long q2), .second, .val (.int p3), .val (.long v2), .second, .val (.int v7), .val (.ref b106), .val (.ref b115), .val (.ref b130), .val (.int v57)] [])) _
                refine XS.iconst X291.here hx rfl (hb hby at_278) ?_
                show Steps p.tables e below (T291.setTop (mkF m 279 #[.val (.long q0), .second, .val (.long q1), .second, .val (.long q2), .second, .val (.int p3), .val (.long v2), .second, .val (.int v7), .val (.ref b106), .val (.ref b115), .val (.ref b130), .val (.int v57)] [(.int (1 : Int32))])) _
                refine XS.goto X291.here hx rfl (pc0 := 279) (pc' := 283) rfl (hb hby at_279) (by decide) (by decide) ?_
                exact kt
              refine own_arm hgo292 ?_
              exact own_armEnd X291 N291 e291 (by rw [hv53.trans (if_pos hc275_59)])
            · have hgo293 : ∀ t, Steps p.tables e below (T291.setTop (mkF m 283 #[.val (.long q0), .second, .val (.long q1), .second, .val (.long q2), .second, .val (.int p3), .val (.long v2), .second, .val (.int v7), .val (.ref b106), .val (.ref b115), .val (.ref b130), .val (.int v57)] [(.int (0 : Int32))])) t → Steps p.tables e below (T291.setTop (mkF m 275 #[.val (.long q0), .second, .val (.long q1), .second, .val (.long q2), .second, .val (.int p3), .val (.long v2), .second, .val (.int v7), .val (.ref b106), .val (.ref b115), .val (.ref b130), .val (.int v57)] [(.int (0 : Int32)), (.int (own_r12 (1 : Int32) v7))])) t := by
                intro t kt
                show Steps p.tables e below (T291.setTop (mkF m 275 #[.val (.long q0), .second, .val (.long q1), .second, .val (.long q2), .second, .val (.int p3), .val (.long v2), .second, .val (.int v7), .val (.ref b106), .val (.ref b115), .val (.ref b130), .val (.int v57)] [(.int (0 : Int32)), (.int (own_r12 (1 : Int32) v7))])) _
                refine XS.icmpYes X291.here hx rfl (pc0 := 275) (pc' := 282) rfl (hb hby at_275) rfl (feq hc275_59).2 (by decide) (by decide) ?_
                show Steps p.tables e below (T291.setTop (mkF m 282 #[.val (.long q0), .second, .val (.long q1), .second, .val (.long q2), .second, .val (.int p3), .val (.long v2), .second, .val (.int v7), .val (.ref b106), .val (.ref b115), .val (.ref b130), .val (.int v57)] [])) _
                refine XS.iconst X291.here hx rfl (hb hby at_282) ?_
                exact kt
              refine own_arm hgo293 ?_
              exact own_armEnd X291 N291 e291 (by rw [hv53.trans (if_neg hc275_59)]))
          have hgo295 : ∀ t, Steps p.tables e below (T294.setTop (mkF m 283 #[.val (.long q0), .second, .val (.long q1), .second, .val (.long q2), .second, .val (.int p3), .val (.long v2), .second, .val (.int v7), .val (.ref b106), .val (.ref b115), .val (.ref b130), .val (.int v57)] [(.int v53)])) t → Steps p.tables e below (T289.setTop (mkF m 256 #[.val (.long q0), .second, .val (.long q1), .second, .val (.long q2), .second, .val (.int p3), .val (.long v2), .second, .val (.int v7), .val (.ref b106), .val (.ref b115), .val (.ref b130), .val (.int v57)] [(.int v57)])) t := by
            intro t kt
            show Steps p.tables e below (T289.setTop (mkF m 256 #[.val (.long q0), .second, .val (.long q1), .second, .val (.long q2), .second, .val (.int p3), .val (.long v2), .second, .val (.int v7), .val (.ref b106), .val (.ref b115), .val (.ref b130), .val (.int v57)] [(.int v57)])) _
            refine XS.ifNo X289.here hx rfl (hb hby at_256) rfl ((if0 _ _).trans (feq hc256_58).1) ?_
            show Steps p.tables e below (T289.setTop (mkF m 259 #[.val (.long q0), .second, .val (.long q1), .second, .val (.long q2), .second, .val (.int p3), .val (.long v2), .second, .val (.int v7), .val (.ref b106), .val (.ref b115), .val (.ref b130), .val (.int v57)] [])) _
            refine XS.aload X289.here hx rfl (hb hby at_259) rfl rfl ?_
            show Steps p.tables e below (T289.setTop (mkF m 261 #[.val (.long q0), .second, .val (.long q1), .second, .val (.long q2), .second, .val (.int p3), .val (.long v2), .second, .val (.int v7), .val (.ref b106), .val (.ref b115), .val (.ref b130), .val (.int v57)] [(.ref b130)])) _
            refine st291.trans ?_
            show Steps p.tables e below (T291.setTop (mkF m 264 #[.val (.long q0), .second, .val (.long q1), .second, .val (.long q2), .second, .val (.int p3), .val (.long v2), .second, .val (.int v7), .val (.ref b106), .val (.ref b115), .val (.ref b130), .val (.int v57)] [(.int (own_r12 (1 : Int32) v7))])) _
            refine XS.iconst X291.here hx rfl (hb hby at_264) ?_
            show Steps p.tables e below (T291.setTop (mkF m 265 #[.val (.long q0), .second, .val (.long q1), .second, .val (.long q2), .second, .val (.int p3), .val (.long v2), .second, .val (.int v7), .val (.ref b106), .val (.ref b115), .val (.ref b130), .val (.int v57)] [(.int (4 : Int32)), (.int (own_r12 (1 : Int32) v7))])) _
            refine XS.iload X291.here hx rfl (hb hby at_265) rfl ?_
            show Steps p.tables e below (T291.setTop (mkF m 267 #[.val (.long q0), .second, .val (.long q1), .second, .val (.long q2), .second, .val (.int p3), .val (.long v2), .second, .val (.int v7), .val (.ref b106), .val (.ref b115), .val (.ref b130), .val (.int v57)] [(.int v7), (.int (4 : Int32)), (.int (own_r12 (1 : Int32) v7))])) _
            refine XS.icmpYes X291.here hx rfl (pc0 := 267) (pc' := 274) rfl (hb hby at_267) rfl (flt (by have y0 := hc159_19; simp only [Int32.lt_iff_toInt_lt, ← Int32.toInt_inj, Int32.reduceToInt] at y0 ⊢; omega : ¬ ((4 : Int32) < v7))).2.1 (by decide) (by decide) ?_
            show Steps p.tables e below (T291.setTop (mkF m 274 #[.val (.long q0), .second, .val (.long q1), .second, .val (.long q2), .second, .val (.int p3), .val (.long v2), .second, .val (.int v7), .val (.ref b106), .val (.ref b115), .val (.ref b130), .val (.int v57)] [(.int (own_r12 (1 : Int32) v7))])) _
            refine XS.iconst X291.here hx rfl (hb hby at_274) ?_
            show Steps p.tables e below (T291.setTop (mkF m 275 #[.val (.long q0), .second, .val (.long q1), .second, .val (.long q2), .second, .val (.int p3), .val (.long v2), .second, .val (.int v7), .val (.ref b106), .val (.ref b115), .val (.ref b130), .val (.int v57)] [(.int (0 : Int32)), (.int (own_r12 (1 : Int32) v7))])) _
            refine st294 _ ?_
            exact kt
          refine own_arm hgo295 ?_
          exact own_armEnd X294 N294 e294 (by rw [hv60.trans (if_neg hc256_58)]))
      have hgo297 : ∀ t, Steps p.tables e below (T296.setTop (mkF m 287 #[.val (.long q0), .second, .val (.long q1), .second, .val (.long q2), .second, .val (.int p3), .val (.long v2), .second, .val (.int v7), .val (.ref b106), .val (.ref b115), .val (.ref b130), .val (.int v60)] [(.int v60)])) t → Steps p.tables e below (T182.setTop (mkF m 159 #[.val (.long q0), .second, .val (.long q1), .second, .val (.long q2), .second, .val (.int p3), .val (.long v2), .second, .val (.int v7), .val (.ref b106), .val (.ref b115), .val (.ref b130), .val (.int v18)] [(.int v7), (.int (1 : Int32))])) t := by
        intro t kt
        show Steps p.tables e below (T182.setTop (mkF m 159 #[.val (.long q0), .second, .val (.long q1), .second, .val (.long q2), .second, .val (.int p3), .val (.long v2), .second, .val (.int v7), .val (.ref b106), .val (.ref b115), .val (.ref b130), .val (.int v18)] [(.int v7), (.int (1 : Int32))])) _
        refine XS.icmpYes X182.here hx rfl (pc0 := 159) (pc' := 168) rfl (hb hby at_159) rfl (flt hc159_19).2.1 (by decide) (by decide) ?_
        show Steps p.tables e below (T182.setTop (mkF m 168 #[.val (.long q0), .second, .val (.long q1), .second, .val (.long q2), .second, .val (.int p3), .val (.long v2), .second, .val (.int v7), .val (.ref b106), .val (.ref b115), .val (.ref b130), .val (.int v18)] [])) _
        refine XS.iload X182.here hx rfl (hb hby at_168) rfl ?_
        show Steps p.tables e below (T182.setTop (mkF m 170 #[.val (.long q0), .second, .val (.long q1), .second, .val (.long q2), .second, .val (.int p3), .val (.long v2), .second, .val (.int v7), .val (.ref b106), .val (.ref b115), .val (.ref b130), .val (.int v18)] [(.int v18)])) _
        refine st282 _ ?_
        show Steps p.tables e below (T282.setTop (mkF m 197 #[.val (.long q0), .second, .val (.long q1), .second, .val (.long q2), .second, .val (.int p3), .val (.long v2), .second, .val (.int v7), .val (.ref b106), .val (.ref b115), .val (.ref b130), .val (.int v18)] [(.int v54)])) _
        refine XS.istore X282.here hx rfl (hb hby at_197) rfl (l' := #[.val (.long q0), .second, .val (.long q1), .second, .val (.long q2), .second, .val (.int p3), .val (.long v2), .second, .val (.int v7), .val (.ref b106), .val (.ref b115), .val (.ref b130), .val (.int v54)]) rfl ?_
        show Steps p.tables e below (T282.setTop (mkF m 199 #[.val (.long q0), .second, .val (.long q1), .second, .val (.long q2), .second, .val (.int p3), .val (.long v2), .second, .val (.int v7), .val (.ref b106), .val (.ref b115), .val (.ref b130), .val (.int v54)] [])) _
        refine XS.iconst X282.here hx rfl (hb hby at_199) ?_
        show Steps p.tables e below (T282.setTop (mkF m 200 #[.val (.long q0), .second, .val (.long q1), .second, .val (.long q2), .second, .val (.int p3), .val (.long v2), .second, .val (.int v7), .val (.ref b106), .val (.ref b115), .val (.ref b130), .val (.int v54)] [(.int (2 : Int32))])) _
        refine XS.iload X282.here hx rfl (hb hby at_200) rfl ?_
        show Steps p.tables e below (T282.setTop (mkF m 202 #[.val (.long q0), .second, .val (.long q1), .second, .val (.long q2), .second, .val (.int p3), .val (.long v2), .second, .val (.int v7), .val (.ref b106), .val (.ref b115), .val (.ref b130), .val (.int v54)] [(.int v7), (.int (2 : Int32))])) _
        refine XS.icmpYes X282.here hx rfl (pc0 := 202) (pc' := 211) rfl (hb hby at_202) rfl (flt (by have y0 := hc159_19; simp only [Int32.lt_iff_toInt_lt, ← Int32.toInt_inj, Int32.reduceToInt] at y0 ⊢; omega : ¬ ((2 : Int32) < v7))).2.1 (by decide) (by decide) ?_
        show Steps p.tables e below (T282.setTop (mkF m 211 #[.val (.long q0), .second, .val (.long q1), .second, .val (.long q2), .second, .val (.int p3), .val (.long v2), .second, .val (.int v7), .val (.ref b106), .val (.ref b115), .val (.ref b130), .val (.int v54)] [])) _
        refine XS.iload X282.here hx rfl (hb hby at_211) rfl ?_
        show Steps p.tables e below (T282.setTop (mkF m 213 #[.val (.long q0), .second, .val (.long q1), .second, .val (.long q2), .second, .val (.int p3), .val (.long v2), .second, .val (.int v7), .val (.ref b106), .val (.ref b115), .val (.ref b130), .val (.int v54)] [(.int v54)])) _
        refine st289 _ ?_
        show Steps p.tables e below (T289.setTop (mkF m 240 #[.val (.long q0), .second, .val (.long q1), .second, .val (.long q2), .second, .val (.int p3), .val (.long v2), .second, .val (.int v7), .val (.ref b106), .val (.ref b115), .val (.ref b130), .val (.int v54)] [(.int v57)])) _
        refine XS.istore X289.here hx rfl (hb hby at_240) rfl (l' := #[.val (.long q0), .second, .val (.long q1), .second, .val (.long q2), .second, .val (.int p3), .val (.long v2), .second, .val (.int v7), .val (.ref b106), .val (.ref b115), .val (.ref b130), .val (.int v57)]) rfl ?_
        show Steps p.tables e below (T289.setTop (mkF m 242 #[.val (.long q0), .second, .val (.long q1), .second, .val (.long q2), .second, .val (.int p3), .val (.long v2), .second, .val (.int v7), .val (.ref b106), .val (.ref b115), .val (.ref b130), .val (.int v57)] [])) _
        refine XS.iconst X289.here hx rfl (hb hby at_242) ?_
        show Steps p.tables e below (T289.setTop (mkF m 243 #[.val (.long q0), .second, .val (.long q1), .second, .val (.long q2), .second, .val (.int p3), .val (.long v2), .second, .val (.int v7), .val (.ref b106), .val (.ref b115), .val (.ref b130), .val (.int v57)] [(.int (3 : Int32))])) _
        refine XS.iload X289.here hx rfl (hb hby at_243) rfl ?_
        show Steps p.tables e below (T289.setTop (mkF m 245 #[.val (.long q0), .second, .val (.long q1), .second, .val (.long q2), .second, .val (.int p3), .val (.long v2), .second, .val (.int v7), .val (.ref b106), .val (.ref b115), .val (.ref b130), .val (.int v57)] [(.int v7), (.int (3 : Int32))])) _
        refine XS.icmpYes X289.here hx rfl (pc0 := 245) (pc' := 254) rfl (hb hby at_245) rfl (flt (by have y0 := hc159_19; simp only [Int32.lt_iff_toInt_lt, ← Int32.toInt_inj, Int32.reduceToInt] at y0 ⊢; omega : ¬ ((3 : Int32) < v7))).2.1 (by decide) (by decide) ?_
        show Steps p.tables e below (T289.setTop (mkF m 254 #[.val (.long q0), .second, .val (.long q1), .second, .val (.long q2), .second, .val (.int p3), .val (.long v2), .second, .val (.int v7), .val (.ref b106), .val (.ref b115), .val (.ref b130), .val (.int v57)] [])) _
        refine XS.iload X289.here hx rfl (hb hby at_254) rfl ?_
        show Steps p.tables e below (T289.setTop (mkF m 256 #[.val (.long q0), .second, .val (.long q1), .second, .val (.long q2), .second, .val (.int p3), .val (.long v2), .second, .val (.int v7), .val (.ref b106), .val (.ref b115), .val (.ref b130), .val (.int v57)] [(.int v57)])) _
        refine st296 _ ?_
        show Steps p.tables e below (T296.setTop (mkF m 283 #[.val (.long q0), .second, .val (.long q1), .second, .val (.long q2), .second, .val (.int p3), .val (.long v2), .second, .val (.int v7), .val (.ref b106), .val (.ref b115), .val (.ref b130), .val (.int v57)] [(.int v60)])) _
        refine XS.istore X296.here hx rfl (hb hby at_283) rfl (l' := #[.val (.long q0), .second, .val (.long q1), .second, .val (.long q2), .second, .val (.int p3), .val (.long v2), .second, .val (.int v7), .val (.ref b106), .val (.ref b115), .val (.ref b130), .val (.int v60)]) rfl ?_
        show Steps p.tables e below (T296.setTop (mkF m 285 #[.val (.long q0), .second, .val (.long q1), .second, .val (.long q2), .second, .val (.int p3), .val (.long v2), .second, .val (.int v7), .val (.ref b106), .val (.ref b115), .val (.ref b130), .val (.int v60)] [])) _
        refine XS.iload X296.here hx rfl (hb hby at_285) rfl ?_
        exact kt
      refine own_go hgo297 ?_
      have hz298 : v60 = 1 := own_leaf3 (q0 := q0) (q1 := q1) (q2 := q2) (p3 := p3) hv1 hv2 hv4 hv5 hv6 hv7 hv9 hv11 hv15 hv17 hv18 hv53 hv54 hv57 hv60 hc116_12 hc159_19
      exact own_retZ X296 hx Bd.returns Bd.notSynchronized (hb hby at_287) (by decide) (by decide) (Or.inr hz298) ⟨by rw [hz298], N296⟩
  · obtain ⟨v63, hv63⟩ : ∃ z : Int32, z = (if (own_r12 (0 : Int32) v7) = (0 : Int32) then (1 : Int32) else (0 : Int32)) := ⟨_, rfl⟩
    obtain ⟨v64, hv64⟩ : ∃ z : Int32, z = (if v11 = (0 : Int32) then (0 : Int32) else v63) := ⟨_, rfl⟩
    obtain ⟨T305, lc305, X305, N305, e305, st305⟩ := own_mrg (n0 := n0) (h := T144.heap) (g := (mkF m 127 #[.val (.long q0), .second, .val (.long q1), .second, .val (.long q2), .second, .val (.int p3), .val (.long v2), .second, .val (.int v7), .val (.ref b106), .val (.ref b115), .val (.ref b130), .val (.int v11)] [(.int v11)])) (g' := (mkF m 154 #[.val (.long q0), .second, .val (.long q1), .second, .val (.long q2), .second, .val (.int p3), .val (.long v2), .second, .val (.int v7), .val (.ref b106), .val (.ref b115), .val (.ref b130), .val (.int v11)] [(.int v64)])) X160 (by
      by_cases hc127_61 : v11 = (0 : Int32)
      · have hgo299 : ∀ t, Steps p.tables e below (T160.setTop (mkF m 154 #[.val (.long q0), .second, .val (.long q1), .second, .val (.long q2), .second, .val (.int p3), .val (.long v2), .second, .val (.int v7), .val (.ref b106), .val (.ref b115), .val (.ref b130), .val (.int v11)] [(.int (0 : Int32))])) t → Steps p.tables e below (T160.setTop (mkF m 127 #[.val (.long q0), .second, .val (.long q1), .second, .val (.long q2), .second, .val (.int p3), .val (.long v2), .second, .val (.int v7), .val (.ref b106), .val (.ref b115), .val (.ref b130), .val (.int v11)] [(.int v11)])) t := by
          intro t kt
          show Steps p.tables e below (T160.setTop (mkF m 127 #[.val (.long q0), .second, .val (.long q1), .second, .val (.long q2), .second, .val (.int p3), .val (.long v2), .second, .val (.int v7), .val (.ref b106), .val (.ref b115), .val (.ref b130), .val (.int v11)] [(.int v11)])) _
          refine XS.ifYes X160.here hx rfl (pc0 := 127) (pc' := 153) rfl (hb hby at_127) rfl ((if0 _ _).trans (teq hc127_61).1) (by decide) (by decide) ?_
          show Steps p.tables e below (T160.setTop (mkF m 153 #[.val (.long q0), .second, .val (.long q1), .second, .val (.long q2), .second, .val (.int p3), .val (.long v2), .second, .val (.int v7), .val (.ref b106), .val (.ref b115), .val (.ref b130), .val (.int v11)] [])) _
          refine XS.iconst X160.here hx rfl (hb hby at_153) ?_
          exact kt
        refine own_arm hgo299 ?_
        exact own_armEnd X160 N160 e160 (by rw [hv64.trans (if_pos hc127_61)])
      · obtain ⟨cq300, kq300, q300a, q300b, q300c⟩ := isOf hZ e160 F144_0
        obtain ⟨_, _, ⟨T300, L300, k300, n300⟩, -, X300, ⟨Lc300, hQ300, l300, y300, z300⟩, st300⟩ := X160.virtualBack hx (y := (⟨"com/example/upper_falls/upperfalls/KeyPositions", "hasNext", "()Z"⟩ : MethodName)) (z := (⟨"com/example/upper_falls/upperfalls/KeyPositions", "hasNext", "()Z"⟩ : MethodName)) hown (mvT hZ (hw _ (List.mem_of_getElem? (i := 74) rfl))) (mvT hZ (hw _ (List.mem_of_getElem? (i := 75) rfl))) (notFace_of_selects (args := #[]) (mvT hZ (hw _ (List.mem_of_getElem? (i := 77) rfl)))) (mvT hZ (hw _ (List.mem_of_getElem? (i := 77) rfl))) (mvT hZ (hw _ (List.mem_of_getElem? (i := 76) rfl))) (by decide) (backOf (W := 0) (rm12 l Z a0 hw [] b130 (0 : Int32) v7 (T144.heap) n0 Z152 F144_5 F144_2) hZ (hw _ (List.mem_of_getElem? (i := 78) rfl)) (hw _ (List.mem_of_getElem? (i := 36) rfl)) (by decide) (by decide)) q300a q300c (g := (mkF m 132 #[.val (.long q0), .second, .val (.long q1), .second, .val (.long q2), .second, .val (.int p3), .val (.long v2), .second, .val (.int v7), .val (.ref b106), .val (.ref b115), .val (.ref b130), .val (.int v11)] [(.ref b130)])) rfl (by rw [hml]; rfl) (Steps.refl _) (argsL := []) (rest := []) (lenOf pd13 rfl) rfl (by show 2 * 0 + _ ≤ _; exact Nat.le_of_eq rfl) (hb hby at_132) (fun _ _ => ⟨rfl, e160, (by decide : 3 + 0 ≤ _), (by decide : 9 + 0 ≤ _)⟩)
        dsimp only [Pt.U, Pt.locs, Pt.cells, Pt.slots] at X300 l300 y300 z300 st300 hQ300
        subst l300 y300 z300
        obtain ⟨rfl, N300q, e300⟩ := hQ300
        have N300 := Fr.app N160 N300q
        obtain ⟨T303, lc303, X303, N303, e303, st303⟩ := own_mrg (n0 := n0) (h := T144.heap) (g := (mkF m 146 #[.val (.long q0), .second, .val (.long q1), .second, .val (.long q2), .second, .val (.int p3), .val (.long v2), .second, .val (.int v7), .val (.ref b106), .val (.ref b115), .val (.ref b130), .val (.int v11)] [(.int (0 : Int32)), (.int (own_r12 (0 : Int32) v7))])) (g' := (mkF m 154 #[.val (.long q0), .second, .val (.long q1), .second, .val (.long q2), .second, .val (.int p3), .val (.long v2), .second, .val (.int v7), .val (.ref b106), .val (.ref b115), .val (.ref b130), .val (.int v11)] [(.int v63)])) X300 (by
          by_cases hc146_62 : (own_r12 (0 : Int32) v7) = (0 : Int32)
          · have hgo301 : ∀ t, Steps p.tables e below (T300.setTop (mkF m 154 #[.val (.long q0), .second, .val (.long q1), .second, .val (.long q2), .second, .val (.int p3), .val (.long v2), .second, .val (.int v7), .val (.ref b106), .val (.ref b115), .val (.ref b130), .val (.int v11)] [(.int (1 : Int32))])) t → Steps p.tables e below (T300.setTop (mkF m 146 #[.val (.long q0), .second, .val (.long q1), .second, .val (.long q2), .second, .val (.int p3), .val (.long v2), .second, .val (.int v7), .val (.ref b106), .val (.ref b115), .val (.ref b130), .val (.int v11)] [(.int (0 : Int32)), (.int (own_r12 (0 : Int32) v7))])) t := by
              intro t kt
              show Steps p.tables e below (T300.setTop (mkF m 146 #[.val (.long q0), .second, .val (.long q1), .second, .val (.long q2), .second, .val (.int p3), .val (.long v2), .second, .val (.int v7), .val (.ref b106), .val (.ref b115), .val (.ref b130), .val (.int v11)] [(.int (0 : Int32)), (.int (own_r12 (0 : Int32) v7))])) _
              refine XS.icmpNo X300.here hx rfl (hb hby at_146) rfl (teq hc146_62).2 ?_
              show Steps p.tables e below (T300.setTop (mkF m 149 #[.val (.long q0), .second, .val (.long q1), .second, .val (.long q2), .second, .val (.int p3), .val (.long v2), .second, .val (.int v7), .val (.ref b106), .val (.ref b115), .val (.ref b130), .val (.int v11)] [])) _
              refine XS.iconst X300.here hx rfl (hb hby at_149) ?_
              show Steps p.tables e below (T300.setTop (mkF m 150 #[.val (.long q0), .second, .val (.long q1), .second, .val (.long q2), .second, .val (.int p3), .val (.long v2), .second, .val (.int v7), .val (.ref b106), .val (.ref b115), .val (.ref b130), .val (.int v11)] [(.int (1 : Int32))])) _
              refine XS.goto X300.here hx rfl (pc0 := 150) (pc' := 154) rfl (hb hby at_150) (by decide) (by decide) ?_
              exact kt
            refine own_arm hgo301 ?_
            exact own_armEnd X300 N300 e300 (by rw [hv63.trans (if_pos hc146_62)])
          · have hgo302 : ∀ t, Steps p.tables e below (T300.setTop (mkF m 154 #[.val (.long q0), .second, .val (.long q1), .second, .val (.long q2), .second, .val (.int p3), .val (.long v2), .second, .val (.int v7), .val (.ref b106), .val (.ref b115), .val (.ref b130), .val (.int v11)] [(.int (0 : Int32))])) t → Steps p.tables e below (T300.setTop (mkF m 146 #[.val (.long q0), .second, .val (.long q1), .second, .val (.long q2), .second, .val (.int p3), .val (.long v2), .second, .val (.int v7), .val (.ref b106), .val (.ref b115), .val (.ref b130), .val (.int v11)] [(.int (0 : Int32)), (.int (own_r12 (0 : Int32) v7))])) t := by
              intro t kt
              show Steps p.tables e below (T300.setTop (mkF m 146 #[.val (.long q0), .second, .val (.long q1), .second, .val (.long q2), .second, .val (.int p3), .val (.long v2), .second, .val (.int v7), .val (.ref b106), .val (.ref b115), .val (.ref b130), .val (.int v11)] [(.int (0 : Int32)), (.int (own_r12 (0 : Int32) v7))])) _
              refine XS.icmpYes X300.here hx rfl (pc0 := 146) (pc' := 153) rfl (hb hby at_146) rfl (feq hc146_62).2 (by decide) (by decide) ?_
              show Steps p.tables e below (T300.setTop (mkF m 153 #[.val (.long q0), .second, .val (.long q1), .second, .val (.long q2), .second, .val (.int p3), .val (.long v2), .second, .val (.int v7), .val (.ref b106), .val (.ref b115), .val (.ref b130), .val (.int v11)] [])) _
              refine XS.iconst X300.here hx rfl (hb hby at_153) ?_
              exact kt
            refine own_arm hgo302 ?_
            exact own_armEnd X300 N300 e300 (by rw [hv63.trans (if_neg hc146_62)]))
        have hgo304 : ∀ t, Steps p.tables e below (T303.setTop (mkF m 154 #[.val (.long q0), .second, .val (.long q1), .second, .val (.long q2), .second, .val (.int p3), .val (.long v2), .second, .val (.int v7), .val (.ref b106), .val (.ref b115), .val (.ref b130), .val (.int v11)] [(.int v63)])) t → Steps p.tables e below (T160.setTop (mkF m 127 #[.val (.long q0), .second, .val (.long q1), .second, .val (.long q2), .second, .val (.int p3), .val (.long v2), .second, .val (.int v7), .val (.ref b106), .val (.ref b115), .val (.ref b130), .val (.int v11)] [(.int v11)])) t := by
          intro t kt
          show Steps p.tables e below (T160.setTop (mkF m 127 #[.val (.long q0), .second, .val (.long q1), .second, .val (.long q2), .second, .val (.int p3), .val (.long v2), .second, .val (.int v7), .val (.ref b106), .val (.ref b115), .val (.ref b130), .val (.int v11)] [(.int v11)])) _
          refine XS.ifNo X160.here hx rfl (hb hby at_127) rfl ((if0 _ _).trans (feq hc127_61).1) ?_
          show Steps p.tables e below (T160.setTop (mkF m 130 #[.val (.long q0), .second, .val (.long q1), .second, .val (.long q2), .second, .val (.int p3), .val (.long v2), .second, .val (.int v7), .val (.ref b106), .val (.ref b115), .val (.ref b130), .val (.int v11)] [])) _
          refine XS.aload X160.here hx rfl (hb hby at_130) rfl rfl ?_
          show Steps p.tables e below (T160.setTop (mkF m 132 #[.val (.long q0), .second, .val (.long q1), .second, .val (.long q2), .second, .val (.int p3), .val (.long v2), .second, .val (.int v7), .val (.ref b106), .val (.ref b115), .val (.ref b130), .val (.int v11)] [(.ref b130)])) _
          refine st300.trans ?_
          show Steps p.tables e below (T300.setTop (mkF m 135 #[.val (.long q0), .second, .val (.long q1), .second, .val (.long q2), .second, .val (.int p3), .val (.long v2), .second, .val (.int v7), .val (.ref b106), .val (.ref b115), .val (.ref b130), .val (.int v11)] [(.int (own_r12 (0 : Int32) v7))])) _
          refine XS.iconst X300.here hx rfl (hb hby at_135) ?_
          show Steps p.tables e below (T300.setTop (mkF m 136 #[.val (.long q0), .second, .val (.long q1), .second, .val (.long q2), .second, .val (.int p3), .val (.long v2), .second, .val (.int v7), .val (.ref b106), .val (.ref b115), .val (.ref b130), .val (.int v11)] [(.int (1 : Int32)), (.int (own_r12 (0 : Int32) v7))])) _
          refine XS.iload X300.here hx rfl (hb hby at_136) rfl ?_
          show Steps p.tables e below (T300.setTop (mkF m 138 #[.val (.long q0), .second, .val (.long q1), .second, .val (.long q2), .second, .val (.int p3), .val (.long v2), .second, .val (.int v7), .val (.ref b106), .val (.ref b115), .val (.ref b130), .val (.int v11)] [(.int v7), (.int (1 : Int32)), (.int (own_r12 (0 : Int32) v7))])) _
          refine XS.icmpYes X300.here hx rfl (pc0 := 138) (pc' := 145) rfl (hb hby at_138) rfl (flt (by have y0 := hc116_12; simp only [Int32.lt_iff_toInt_lt, ← Int32.toInt_inj, Int32.reduceToInt] at y0 ⊢; omega : ¬ ((1 : Int32) < v7))).2.1 (by decide) (by decide) ?_
          show Steps p.tables e below (T300.setTop (mkF m 145 #[.val (.long q0), .second, .val (.long q1), .second, .val (.long q2), .second, .val (.int p3), .val (.long v2), .second, .val (.int v7), .val (.ref b106), .val (.ref b115), .val (.ref b130), .val (.int v11)] [(.int (own_r12 (0 : Int32) v7))])) _
          refine XS.iconst X300.here hx rfl (hb hby at_145) ?_
          show Steps p.tables e below (T300.setTop (mkF m 146 #[.val (.long q0), .second, .val (.long q1), .second, .val (.long q2), .second, .val (.int p3), .val (.long v2), .second, .val (.int v7), .val (.ref b106), .val (.ref b115), .val (.ref b130), .val (.int v11)] [(.int (0 : Int32)), (.int (own_r12 (0 : Int32) v7))])) _
          refine st303 _ ?_
          exact kt
        refine own_arm hgo304 ?_
        exact own_armEnd X303 N303 e303 (by rw [hv64.trans (if_neg hc127_61)]))
    obtain ⟨v67, hv67⟩ : ∃ z : Int32, z = (if v64 = (0 : Int32) then (0 : Int32) else v63) := ⟨_, rfl⟩
    obtain ⟨T312, lc312, X312, N312, e312, st312⟩ := own_mrg (n0 := n0) (h := T144.heap) (g := (mkF m 170 #[.val (.long q0), .second, .val (.long q1), .second, .val (.long q2), .second, .val (.int p3), .val (.long v2), .second, .val (.int v7), .val (.ref b106), .val (.ref b115), .val (.ref b130), .val (.int v64)] [(.int v64)])) (g' := (mkF m 197 #[.val (.long q0), .second, .val (.long q1), .second, .val (.long q2), .second, .val (.int p3), .val (.long v2), .second, .val (.int v7), .val (.ref b106), .val (.ref b115), .val (.ref b130), .val (.int v64)] [(.int v67)])) X305 (by
      by_cases hc170_65 : v64 = (0 : Int32)
      · have hgo306 : ∀ t, Steps p.tables e below (T305.setTop (mkF m 197 #[.val (.long q0), .second, .val (.long q1), .second, .val (.long q2), .second, .val (.int p3), .val (.long v2), .second, .val (.int v7), .val (.ref b106), .val (.ref b115), .val (.ref b130), .val (.int v64)] [(.int (0 : Int32))])) t → Steps p.tables e below (T305.setTop (mkF m 170 #[.val (.long q0), .second, .val (.long q1), .second, .val (.long q2), .second, .val (.int p3), .val (.long v2), .second, .val (.int v7), .val (.ref b106), .val (.ref b115), .val (.ref b130), .val (.int v64)] [(.int v64)])) t := by
          intro t kt
          show Steps p.tables e below (T305.setTop (mkF m 170 #[.val (.long q0), .second, .val (.long q1), .second, .val (.long q2), .second, .val (.int p3), .val (.long v2), .second, .val (.int v7), .val (.ref b106), .val (.ref b115), .val (.ref b130), .val (.int v64)] [(.int v64)])) _
          refine XS.ifYes X305.here hx rfl (pc0 := 170) (pc' := 196) rfl (hb hby at_170) rfl ((if0 _ _).trans (teq hc170_65).1) (by decide) (by decide) ?_
          show Steps p.tables e below (T305.setTop (mkF m 196 #[.val (.long q0), .second, .val (.long q1), .second, .val (.long q2), .second, .val (.int p3), .val (.long v2), .second, .val (.int v7), .val (.ref b106), .val (.ref b115), .val (.ref b130), .val (.int v64)] [])) _
          refine XS.iconst X305.here hx rfl (hb hby at_196) ?_
          exact kt
        refine own_arm hgo306 ?_
        exact own_armEnd X305 N305 e305 (by rw [hv67.trans (if_pos hc170_65)])
      · obtain ⟨cq307, kq307, q307a, q307b, q307c⟩ := isOf hZ e305 F144_0
        obtain ⟨_, _, ⟨T307, L307, k307, n307⟩, -, X307, ⟨Lc307, hQ307, l307, y307, z307⟩, st307⟩ := X305.virtualBack hx (y := (⟨"com/example/upper_falls/upperfalls/KeyPositions", "hasNext", "()Z"⟩ : MethodName)) (z := (⟨"com/example/upper_falls/upperfalls/KeyPositions", "hasNext", "()Z"⟩ : MethodName)) hown (mvT hZ (hw _ (List.mem_of_getElem? (i := 74) rfl))) (mvT hZ (hw _ (List.mem_of_getElem? (i := 75) rfl))) (notFace_of_selects (args := #[]) (mvT hZ (hw _ (List.mem_of_getElem? (i := 77) rfl)))) (mvT hZ (hw _ (List.mem_of_getElem? (i := 77) rfl))) (mvT hZ (hw _ (List.mem_of_getElem? (i := 76) rfl))) (by decide) (backOf (W := 0) (rm12 l Z a0 hw [] b130 (0 : Int32) v7 (T144.heap) n0 Z152 F144_5 F144_2) hZ (hw _ (List.mem_of_getElem? (i := 78) rfl)) (hw _ (List.mem_of_getElem? (i := 36) rfl)) (by decide) (by decide)) q307a q307c (g := (mkF m 175 #[.val (.long q0), .second, .val (.long q1), .second, .val (.long q2), .second, .val (.int p3), .val (.long v2), .second, .val (.int v7), .val (.ref b106), .val (.ref b115), .val (.ref b130), .val (.int v64)] [(.ref b130)])) rfl (by rw [hml]; rfl) (Steps.refl _) (argsL := []) (rest := []) (lenOf pd13 rfl) rfl (by show 2 * 0 + _ ≤ _; exact Nat.le_of_eq rfl) (hb hby at_175) (fun _ _ => ⟨rfl, e305, (by decide : 3 + 0 ≤ _), (by decide : 9 + 0 ≤ _)⟩)
        dsimp only [Pt.U, Pt.locs, Pt.cells, Pt.slots] at X307 l307 y307 z307 st307 hQ307
        subst l307 y307 z307
        obtain ⟨rfl, N307q, e307⟩ := hQ307
        have N307 := Fr.app N305 N307q
        obtain ⟨T310, lc310, X310, N310, e310, st310⟩ := own_mrg (n0 := n0) (h := T144.heap) (g := (mkF m 189 #[.val (.long q0), .second, .val (.long q1), .second, .val (.long q2), .second, .val (.int p3), .val (.long v2), .second, .val (.int v7), .val (.ref b106), .val (.ref b115), .val (.ref b130), .val (.int v64)] [(.int (0 : Int32)), (.int (own_r12 (0 : Int32) v7))])) (g' := (mkF m 197 #[.val (.long q0), .second, .val (.long q1), .second, .val (.long q2), .second, .val (.int p3), .val (.long v2), .second, .val (.int v7), .val (.ref b106), .val (.ref b115), .val (.ref b130), .val (.int v64)] [(.int v63)])) X307 (by
          by_cases hc189_66 : (own_r12 (0 : Int32) v7) = (0 : Int32)
          · have hgo308 : ∀ t, Steps p.tables e below (T307.setTop (mkF m 197 #[.val (.long q0), .second, .val (.long q1), .second, .val (.long q2), .second, .val (.int p3), .val (.long v2), .second, .val (.int v7), .val (.ref b106), .val (.ref b115), .val (.ref b130), .val (.int v64)] [(.int (1 : Int32))])) t → Steps p.tables e below (T307.setTop (mkF m 189 #[.val (.long q0), .second, .val (.long q1), .second, .val (.long q2), .second, .val (.int p3), .val (.long v2), .second, .val (.int v7), .val (.ref b106), .val (.ref b115), .val (.ref b130), .val (.int v64)] [(.int (0 : Int32)), (.int (own_r12 (0 : Int32) v7))])) t := by
              intro t kt
              show Steps p.tables e below (T307.setTop (mkF m 189 #[.val (.long q0), .second, .val (.long q1), .second, .val (.long q2), .second, .val (.int p3), .val (.long v2), .second, .val (.int v7), .val (.ref b106), .val (.ref b115), .val (.ref b130), .val (.int v64)] [(.int (0 : Int32)), (.int (own_r12 (0 : Int32) v7))])) _
              refine XS.icmpNo X307.here hx rfl (hb hby at_189) rfl (teq hc189_66).2 ?_
              show Steps p.tables e below (T307.setTop (mkF m 192 #[.val (.long q0), .second, .val (.long q1), .second, .val (.long q2), .second, .val (.int p3), .val (.long v2), .second, .val (.int v7), .val (.ref b106), .val (.ref b115), .val (.ref b130), .val (.int v64)] [])) _
              refine XS.iconst X307.here hx rfl (hb hby at_192) ?_
              show Steps p.tables e below (T307.setTop (mkF m 193 #[.val (.long q0), .second, .val (.long q1), .second, .val (.long q2), .second, .val (.int p3), .val (.long v2), .second, .val (.int v7), .val (.ref b106), .val (.ref b115), .val (.ref b130), .val (.int v64)] [(.int (1 : Int32))])) _
              refine XS.goto X307.here hx rfl (pc0 := 193) (pc' := 197) rfl (hb hby at_193) (by decide) (by decide) ?_
              exact kt
            refine own_arm hgo308 ?_
            exact own_armEnd X307 N307 e307 (by rw [hv63.trans (if_pos hc189_66)])
          · have hgo309 : ∀ t, Steps p.tables e below (T307.setTop (mkF m 197 #[.val (.long q0), .second, .val (.long q1), .second, .val (.long q2), .second, .val (.int p3), .val (.long v2), .second, .val (.int v7), .val (.ref b106), .val (.ref b115), .val (.ref b130), .val (.int v64)] [(.int (0 : Int32))])) t → Steps p.tables e below (T307.setTop (mkF m 189 #[.val (.long q0), .second, .val (.long q1), .second, .val (.long q2), .second, .val (.int p3), .val (.long v2), .second, .val (.int v7), .val (.ref b106), .val (.ref b115), .val (.ref b130), .val (.int v64)] [(.int (0 : Int32)), (.int (own_r12 (0 : Int32) v7))])) t := by
              intro t kt
              show Steps p.tables e below (T307.setTop (mkF m 189 #[.val (.long q0), .second, .val (.long q1), .second, .val (.long q2), .second, .val (.int p3), .val (.long v2), .second, .val (.int v7), .val (.ref b106), .val (.ref b115), .val (.ref b130), .val (.int v64)] [(.int (0 : Int32)), (.int (own_r12 (0 : Int32) v7))])) _
              refine XS.icmpYes X307.here hx rfl (pc0 := 189) (pc' := 196) rfl (hb hby at_189) rfl (feq hc189_66).2 (by decide) (by decide) ?_
              show Steps p.tables e below (T307.setTop (mkF m 196 #[.val (.long q0), .second, .val (.long q1), .second, .val (.long q2), .second, .val (.int p3), .val (.long v2), .second, .val (.int v7), .val (.ref b106), .val (.ref b115), .val (.ref b130), .val (.int v64)] [])) _
              refine XS.iconst X307.here hx rfl (hb hby at_196) ?_
              exact kt
            refine own_arm hgo309 ?_
            exact own_armEnd X307 N307 e307 (by rw [hv63.trans (if_neg hc189_66)]))
        have hgo311 : ∀ t, Steps p.tables e below (T310.setTop (mkF m 197 #[.val (.long q0), .second, .val (.long q1), .second, .val (.long q2), .second, .val (.int p3), .val (.long v2), .second, .val (.int v7), .val (.ref b106), .val (.ref b115), .val (.ref b130), .val (.int v64)] [(.int v63)])) t → Steps p.tables e below (T305.setTop (mkF m 170 #[.val (.long q0), .second, .val (.long q1), .second, .val (.long q2), .second, .val (.int p3), .val (.long v2), .second, .val (.int v7), .val (.ref b106), .val (.ref b115), .val (.ref b130), .val (.int v64)] [(.int v64)])) t := by
          intro t kt
          show Steps p.tables e below (T305.setTop (mkF m 170 #[.val (.long q0), .second, .val (.long q1), .second, .val (.long q2), .second, .val (.int p3), .val (.long v2), .second, .val (.int v7), .val (.ref b106), .val (.ref b115), .val (.ref b130), .val (.int v64)] [(.int v64)])) _
          refine XS.ifNo X305.here hx rfl (hb hby at_170) rfl ((if0 _ _).trans (feq hc170_65).1) ?_
          show Steps p.tables e below (T305.setTop (mkF m 173 #[.val (.long q0), .second, .val (.long q1), .second, .val (.long q2), .second, .val (.int p3), .val (.long v2), .second, .val (.int v7), .val (.ref b106), .val (.ref b115), .val (.ref b130), .val (.int v64)] [])) _
          refine XS.aload X305.here hx rfl (hb hby at_173) rfl rfl ?_
          show Steps p.tables e below (T305.setTop (mkF m 175 #[.val (.long q0), .second, .val (.long q1), .second, .val (.long q2), .second, .val (.int p3), .val (.long v2), .second, .val (.int v7), .val (.ref b106), .val (.ref b115), .val (.ref b130), .val (.int v64)] [(.ref b130)])) _
          refine st307.trans ?_
          show Steps p.tables e below (T307.setTop (mkF m 178 #[.val (.long q0), .second, .val (.long q1), .second, .val (.long q2), .second, .val (.int p3), .val (.long v2), .second, .val (.int v7), .val (.ref b106), .val (.ref b115), .val (.ref b130), .val (.int v64)] [(.int (own_r12 (0 : Int32) v7))])) _
          refine XS.iconst X307.here hx rfl (hb hby at_178) ?_
          show Steps p.tables e below (T307.setTop (mkF m 179 #[.val (.long q0), .second, .val (.long q1), .second, .val (.long q2), .second, .val (.int p3), .val (.long v2), .second, .val (.int v7), .val (.ref b106), .val (.ref b115), .val (.ref b130), .val (.int v64)] [(.int (2 : Int32)), (.int (own_r12 (0 : Int32) v7))])) _
          refine XS.iload X307.here hx rfl (hb hby at_179) rfl ?_
          show Steps p.tables e below (T307.setTop (mkF m 181 #[.val (.long q0), .second, .val (.long q1), .second, .val (.long q2), .second, .val (.int p3), .val (.long v2), .second, .val (.int v7), .val (.ref b106), .val (.ref b115), .val (.ref b130), .val (.int v64)] [(.int v7), (.int (2 : Int32)), (.int (own_r12 (0 : Int32) v7))])) _
          refine XS.icmpYes X307.here hx rfl (pc0 := 181) (pc' := 188) rfl (hb hby at_181) rfl (flt (by have y0 := hc116_12; simp only [Int32.lt_iff_toInt_lt, ← Int32.toInt_inj, Int32.reduceToInt] at y0 ⊢; omega : ¬ ((2 : Int32) < v7))).2.1 (by decide) (by decide) ?_
          show Steps p.tables e below (T307.setTop (mkF m 188 #[.val (.long q0), .second, .val (.long q1), .second, .val (.long q2), .second, .val (.int p3), .val (.long v2), .second, .val (.int v7), .val (.ref b106), .val (.ref b115), .val (.ref b130), .val (.int v64)] [(.int (own_r12 (0 : Int32) v7))])) _
          refine XS.iconst X307.here hx rfl (hb hby at_188) ?_
          show Steps p.tables e below (T307.setTop (mkF m 189 #[.val (.long q0), .second, .val (.long q1), .second, .val (.long q2), .second, .val (.int p3), .val (.long v2), .second, .val (.int v7), .val (.ref b106), .val (.ref b115), .val (.ref b130), .val (.int v64)] [(.int (0 : Int32)), (.int (own_r12 (0 : Int32) v7))])) _
          refine st310 _ ?_
          exact kt
        refine own_arm hgo311 ?_
        exact own_armEnd X310 N310 e310 (by rw [hv67.trans (if_neg hc170_65)]))
    obtain ⟨v70, hv70⟩ : ∃ z : Int32, z = (if v67 = (0 : Int32) then (0 : Int32) else v63) := ⟨_, rfl⟩
    obtain ⟨T319, lc319, X319, N319, e319, st319⟩ := own_mrg (n0 := n0) (h := T144.heap) (g := (mkF m 213 #[.val (.long q0), .second, .val (.long q1), .second, .val (.long q2), .second, .val (.int p3), .val (.long v2), .second, .val (.int v7), .val (.ref b106), .val (.ref b115), .val (.ref b130), .val (.int v67)] [(.int v67)])) (g' := (mkF m 240 #[.val (.long q0), .second, .val (.long q1), .second, .val (.long q2), .second, .val (.int p3), .val (.long v2), .second, .val (.int v7), .val (.ref b106), .val (.ref b115), .val (.ref b130), .val (.int v67)] [(.int v70)])) X312 (by
      by_cases hc213_68 : v67 = (0 : Int32)
      · have hgo313 : ∀ t, Steps p.tables e below (T312.setTop (mkF m 240 #[.val (.long q0), .second, .val (.long q1), .second, .val (.long q2), .second, .val (.int p3), .val (.long v2), .second, .val (.int v7), .val (.ref b106), .val (.ref b115), .val (.ref b130), .val (.int v67)] [(.int (0 : Int32))])) t → Steps p.tables e below (T312.setTop (mkF m 213 #[.val (.long q0), .second, .val (.long q1), .second, .val (.long q2), .second, .val (.int p3), .val (.long v2), .second, .val (.int v7), .val (.ref b106), .val (.ref b115), .val (.ref b130), .val (.int v67)] [(.int v67)])) t := by
          intro t kt
          show Steps p.tables e below (T312.setTop (mkF m 213 #[.val (.long q0), .second, .val (.long q1), .second, .val (.long q2), .second, .val (.int p3), .val (.long v2), .second, .val (.int v7), .val (.ref b106), .val (.ref b115), .val (.ref b130), .val (.int v67)] [(.int v67)])) _
          refine XS.ifYes X312.here hx rfl (pc0 := 213) (pc' := 239) rfl (hb hby at_213) rfl ((if0 _ _).trans (teq hc213_68).1) (by decide) (by decide) ?_
          show Steps p.tables e below (T312.setTop (mkF m 239 #[.val (.long q0), .second, .val (.long q1), .second, .val (.long q2), .second, .val (.int p3), .val (.long v2), .second, .val (.int v7), .val (.ref b106), .val (.ref b115), .val (.ref b130), .val (.int v67)] [])) _
          refine XS.iconst X312.here hx rfl (hb hby at_239) ?_
          exact kt
        refine own_arm hgo313 ?_
        exact own_armEnd X312 N312 e312 (by rw [hv70.trans (if_pos hc213_68)])
      · obtain ⟨cq314, kq314, q314a, q314b, q314c⟩ := isOf hZ e312 F144_0
        obtain ⟨_, _, ⟨T314, L314, k314, n314⟩, -, X314, ⟨Lc314, hQ314, l314, y314, z314⟩, st314⟩ := X312.virtualBack hx (y := (⟨"com/example/upper_falls/upperfalls/KeyPositions", "hasNext", "()Z"⟩ : MethodName)) (z := (⟨"com/example/upper_falls/upperfalls/KeyPositions", "hasNext", "()Z"⟩ : MethodName)) hown (mvT hZ (hw _ (List.mem_of_getElem? (i := 74) rfl))) (mvT hZ (hw _ (List.mem_of_getElem? (i := 75) rfl))) (notFace_of_selects (args := #[]) (mvT hZ (hw _ (List.mem_of_getElem? (i := 77) rfl)))) (mvT hZ (hw _ (List.mem_of_getElem? (i := 77) rfl))) (mvT hZ (hw _ (List.mem_of_getElem? (i := 76) rfl))) (by decide) (backOf (W := 0) (rm12 l Z a0 hw [] b130 (0 : Int32) v7 (T144.heap) n0 Z152 F144_5 F144_2) hZ (hw _ (List.mem_of_getElem? (i := 78) rfl)) (hw _ (List.mem_of_getElem? (i := 36) rfl)) (by decide) (by decide)) q314a q314c (g := (mkF m 218 #[.val (.long q0), .second, .val (.long q1), .second, .val (.long q2), .second, .val (.int p3), .val (.long v2), .second, .val (.int v7), .val (.ref b106), .val (.ref b115), .val (.ref b130), .val (.int v67)] [(.ref b130)])) rfl (by rw [hml]; rfl) (Steps.refl _) (argsL := []) (rest := []) (lenOf pd13 rfl) rfl (by show 2 * 0 + _ ≤ _; exact Nat.le_of_eq rfl) (hb hby at_218) (fun _ _ => ⟨rfl, e312, (by decide : 3 + 0 ≤ _), (by decide : 9 + 0 ≤ _)⟩)
        dsimp only [Pt.U, Pt.locs, Pt.cells, Pt.slots] at X314 l314 y314 z314 st314 hQ314
        subst l314 y314 z314
        obtain ⟨rfl, N314q, e314⟩ := hQ314
        have N314 := Fr.app N312 N314q
        obtain ⟨T317, lc317, X317, N317, e317, st317⟩ := own_mrg (n0 := n0) (h := T144.heap) (g := (mkF m 232 #[.val (.long q0), .second, .val (.long q1), .second, .val (.long q2), .second, .val (.int p3), .val (.long v2), .second, .val (.int v7), .val (.ref b106), .val (.ref b115), .val (.ref b130), .val (.int v67)] [(.int (0 : Int32)), (.int (own_r12 (0 : Int32) v7))])) (g' := (mkF m 240 #[.val (.long q0), .second, .val (.long q1), .second, .val (.long q2), .second, .val (.int p3), .val (.long v2), .second, .val (.int v7), .val (.ref b106), .val (.ref b115), .val (.ref b130), .val (.int v67)] [(.int v63)])) X314 (by
          by_cases hc232_69 : (own_r12 (0 : Int32) v7) = (0 : Int32)
          · have hgo315 : ∀ t, Steps p.tables e below (T314.setTop (mkF m 240 #[.val (.long q0), .second, .val (.long q1), .second, .val (.long q2), .second, .val (.int p3), .val (.long v2), .second, .val (.int v7), .val (.ref b106), .val (.ref b115), .val (.ref b130), .val (.int v67)] [(.int (1 : Int32))])) t → Steps p.tables e below (T314.setTop (mkF m 232 #[.val (.long q0), .second, .val (.long q1), .second, .val (.long q2), .second, .val (.int p3), .val (.long v2), .second, .val (.int v7), .val (.ref b106), .val (.ref b115), .val (.ref b130), .val (.int v67)] [(.int (0 : Int32)), (.int (own_r12 (0 : Int32) v7))])) t := by
              intro t kt
              show Steps p.tables e below (T314.setTop (mkF m 232 #[.val (.long q0), .second, .val (.long q1), .second, .val (.long q2), .second, .val (.int p3), .val (.long v2), .second, .val (.int v7), .val (.ref b106), .val (.ref b115), .val (.ref b130), .val (.int v67)] [(.int (0 : Int32)), (.int (own_r12 (0 : Int32) v7))])) _
              refine XS.icmpNo X314.here hx rfl (hb hby at_232) rfl (teq hc232_69).2 ?_
              show Steps p.tables e below (T314.setTop (mkF m 235 #[.val (.long q0), .second, .val (.long q1), .second, .val (.long q2), .second, .val (.int p3), .val (.long v2), .second, .val (.int v7), .val (.ref b106), .val (.ref b115), .val (.ref b130), .val (.int v67)] [])) _
              refine XS.iconst X314.here hx rfl (hb hby at_235) ?_
              show Steps p.tables e below (T314.setTop (mkF m 236 #[.val (.long q0), .second, .val (.long q1), .second, .val (.long q2), .second, .val (.int p3), .val (.long v2), .second, .val (.int v7), .val (.ref b106), .val (.ref b115), .val (.ref b130), .val (.int v67)] [(.int (1 : Int32))])) _
              refine XS.goto X314.here hx rfl (pc0 := 236) (pc' := 240) rfl (hb hby at_236) (by decide) (by decide) ?_
              exact kt
            refine own_arm hgo315 ?_
            exact own_armEnd X314 N314 e314 (by rw [hv63.trans (if_pos hc232_69)])
          · have hgo316 : ∀ t, Steps p.tables e below (T314.setTop (mkF m 240 #[.val (.long q0), .second, .val (.long q1), .second, .val (.long q2), .second, .val (.int p3), .val (.long v2), .second, .val (.int v7), .val (.ref b106), .val (.ref b115), .val (.ref b130), .val (.int v67)] [(.int (0 : Int32))])) t → Steps p.tables e below (T314.setTop (mkF m 232 #[.val (.long q0), .second, .val (.long q1), .second, .val (.long q2), .second, .val (.int p3), .val (.long v2), .second, .val (.int v7), .val (.ref b106), .val (.ref b115), .val (.ref b130), .val (.int v67)] [(.int (0 : Int32)), (.int (own_r12 (0 : Int32) v7))])) t := by
              intro t kt
              show Steps p.tables e below (T314.setTop (mkF m 232 #[.val (.long q0), .second, .val (.long q1), .second, .val (.long q2), .second, .val (.int p3), .val (.long v2), .second, .val (.int v7), .val (.ref b106), .val (.ref b115), .val (.ref b130), .val (.int v67)] [(.int (0 : Int32)), (.int (own_r12 (0 : Int32) v7))])) _
              refine XS.icmpYes X314.here hx rfl (pc0 := 232) (pc' := 239) rfl (hb hby at_232) rfl (feq hc232_69).2 (by decide) (by decide) ?_
              show Steps p.tables e below (T314.setTop (mkF m 239 #[.val (.long q0), .second, .val (.long q1), .second, .val (.long q2), .second, .val (.int p3), .val (.long v2), .second, .val (.int v7), .val (.ref b106), .val (.ref b115), .val (.ref b130), .val (.int v67)] [])) _
              refine XS.iconst X314.here hx rfl (hb hby at_239) ?_
              exact kt
            refine own_arm hgo316 ?_
            exact own_armEnd X314 N314 e314 (by rw [hv63.trans (if_neg hc232_69)]))
        have hgo318 : ∀ t, Steps p.tables e below (T317.setTop (mkF m 240 #[.val (.long q0), .second, .val (.long q1), .second, .val (.long q2), .second, .val (.int p3), .val (.long v2), .second, .val (.int v7), .val (.ref b106), .val (.ref b115), .val (.ref b130), .val (.int v67)] [(.int v63)])) t → Steps p.tables e below (T312.setTop (mkF m 213 #[.val (.long q0), .second, .val (.long q1), .second, .val (.long q2), .second, .val (.int p3), .val (.long v2), .second, .val (.int v7), .val (.ref b106), .val (.ref b115), .val (.ref b130), .val (.int v67)] [(.int v67)])) t := by
          intro t kt
          show Steps p.tables e below (T312.setTop (mkF m 213 #[.val (.long q0), .second, .val (.long q1), .second, .val (.long q2), .second, .val (.int p3), .val (.long v2), .second, .val (.int v7), .val (.ref b106), .val (.ref b115), .val (.ref b130), .val (.int v67)] [(.int v67)])) _
          refine XS.ifNo X312.here hx rfl (hb hby at_213) rfl ((if0 _ _).trans (feq hc213_68).1) ?_
          show Steps p.tables e below (T312.setTop (mkF m 216 #[.val (.long q0), .second, .val (.long q1), .second, .val (.long q2), .second, .val (.int p3), .val (.long v2), .second, .val (.int v7), .val (.ref b106), .val (.ref b115), .val (.ref b130), .val (.int v67)] [])) _
          refine XS.aload X312.here hx rfl (hb hby at_216) rfl rfl ?_
          show Steps p.tables e below (T312.setTop (mkF m 218 #[.val (.long q0), .second, .val (.long q1), .second, .val (.long q2), .second, .val (.int p3), .val (.long v2), .second, .val (.int v7), .val (.ref b106), .val (.ref b115), .val (.ref b130), .val (.int v67)] [(.ref b130)])) _
          refine st314.trans ?_
          show Steps p.tables e below (T314.setTop (mkF m 221 #[.val (.long q0), .second, .val (.long q1), .second, .val (.long q2), .second, .val (.int p3), .val (.long v2), .second, .val (.int v7), .val (.ref b106), .val (.ref b115), .val (.ref b130), .val (.int v67)] [(.int (own_r12 (0 : Int32) v7))])) _
          refine XS.iconst X314.here hx rfl (hb hby at_221) ?_
          show Steps p.tables e below (T314.setTop (mkF m 222 #[.val (.long q0), .second, .val (.long q1), .second, .val (.long q2), .second, .val (.int p3), .val (.long v2), .second, .val (.int v7), .val (.ref b106), .val (.ref b115), .val (.ref b130), .val (.int v67)] [(.int (3 : Int32)), (.int (own_r12 (0 : Int32) v7))])) _
          refine XS.iload X314.here hx rfl (hb hby at_222) rfl ?_
          show Steps p.tables e below (T314.setTop (mkF m 224 #[.val (.long q0), .second, .val (.long q1), .second, .val (.long q2), .second, .val (.int p3), .val (.long v2), .second, .val (.int v7), .val (.ref b106), .val (.ref b115), .val (.ref b130), .val (.int v67)] [(.int v7), (.int (3 : Int32)), (.int (own_r12 (0 : Int32) v7))])) _
          refine XS.icmpYes X314.here hx rfl (pc0 := 224) (pc' := 231) rfl (hb hby at_224) rfl (flt (by have y0 := hc116_12; simp only [Int32.lt_iff_toInt_lt, ← Int32.toInt_inj, Int32.reduceToInt] at y0 ⊢; omega : ¬ ((3 : Int32) < v7))).2.1 (by decide) (by decide) ?_
          show Steps p.tables e below (T314.setTop (mkF m 231 #[.val (.long q0), .second, .val (.long q1), .second, .val (.long q2), .second, .val (.int p3), .val (.long v2), .second, .val (.int v7), .val (.ref b106), .val (.ref b115), .val (.ref b130), .val (.int v67)] [(.int (own_r12 (0 : Int32) v7))])) _
          refine XS.iconst X314.here hx rfl (hb hby at_231) ?_
          show Steps p.tables e below (T314.setTop (mkF m 232 #[.val (.long q0), .second, .val (.long q1), .second, .val (.long q2), .second, .val (.int p3), .val (.long v2), .second, .val (.int v7), .val (.ref b106), .val (.ref b115), .val (.ref b130), .val (.int v67)] [(.int (0 : Int32)), (.int (own_r12 (0 : Int32) v7))])) _
          refine st317 _ ?_
          exact kt
        refine own_arm hgo318 ?_
        exact own_armEnd X317 N317 e317 (by rw [hv70.trans (if_neg hc213_68)]))
    obtain ⟨v73, hv73⟩ : ∃ z : Int32, z = (if v70 = (0 : Int32) then (0 : Int32) else v63) := ⟨_, rfl⟩
    obtain ⟨T326, lc326, X326, N326, e326, st326⟩ := own_mrg (n0 := n0) (h := T144.heap) (g := (mkF m 256 #[.val (.long q0), .second, .val (.long q1), .second, .val (.long q2), .second, .val (.int p3), .val (.long v2), .second, .val (.int v7), .val (.ref b106), .val (.ref b115), .val (.ref b130), .val (.int v70)] [(.int v70)])) (g' := (mkF m 283 #[.val (.long q0), .second, .val (.long q1), .second, .val (.long q2), .second, .val (.int p3), .val (.long v2), .second, .val (.int v7), .val (.ref b106), .val (.ref b115), .val (.ref b130), .val (.int v70)] [(.int v73)])) X319 (by
      by_cases hc256_71 : v70 = (0 : Int32)
      · have hgo320 : ∀ t, Steps p.tables e below (T319.setTop (mkF m 283 #[.val (.long q0), .second, .val (.long q1), .second, .val (.long q2), .second, .val (.int p3), .val (.long v2), .second, .val (.int v7), .val (.ref b106), .val (.ref b115), .val (.ref b130), .val (.int v70)] [(.int (0 : Int32))])) t → Steps p.tables e below (T319.setTop (mkF m 256 #[.val (.long q0), .second, .val (.long q1), .second, .val (.long q2), .second, .val (.int p3), .val (.long v2), .second, .val (.int v7), .val (.ref b106), .val (.ref b115), .val (.ref b130), .val (.int v70)] [(.int v70)])) t := by
          intro t kt
          show Steps p.tables e below (T319.setTop (mkF m 256 #[.val (.long q0), .second, .val (.long q1), .second, .val (.long q2), .second, .val (.int p3), .val (.long v2), .second, .val (.int v7), .val (.ref b106), .val (.ref b115), .val (.ref b130), .val (.int v70)] [(.int v70)])) _
          refine XS.ifYes X319.here hx rfl (pc0 := 256) (pc' := 282) rfl (hb hby at_256) rfl ((if0 _ _).trans (teq hc256_71).1) (by decide) (by decide) ?_
          show Steps p.tables e below (T319.setTop (mkF m 282 #[.val (.long q0), .second, .val (.long q1), .second, .val (.long q2), .second, .val (.int p3), .val (.long v2), .second, .val (.int v7), .val (.ref b106), .val (.ref b115), .val (.ref b130), .val (.int v70)] [])) _
          refine XS.iconst X319.here hx rfl (hb hby at_282) ?_
          exact kt
        refine own_arm hgo320 ?_
        exact own_armEnd X319 N319 e319 (by rw [hv73.trans (if_pos hc256_71)])
      · obtain ⟨cq321, kq321, q321a, q321b, q321c⟩ := isOf hZ e319 F144_0
        obtain ⟨_, _, ⟨T321, L321, k321, n321⟩, -, X321, ⟨Lc321, hQ321, l321, y321, z321⟩, st321⟩ := X319.virtualBack hx (y := (⟨"com/example/upper_falls/upperfalls/KeyPositions", "hasNext", "()Z"⟩ : MethodName)) (z := (⟨"com/example/upper_falls/upperfalls/KeyPositions", "hasNext", "()Z"⟩ : MethodName)) hown (mvT hZ (hw _ (List.mem_of_getElem? (i := 74) rfl))) (mvT hZ (hw _ (List.mem_of_getElem? (i := 75) rfl))) (notFace_of_selects (args := #[]) (mvT hZ (hw _ (List.mem_of_getElem? (i := 77) rfl)))) (mvT hZ (hw _ (List.mem_of_getElem? (i := 77) rfl))) (mvT hZ (hw _ (List.mem_of_getElem? (i := 76) rfl))) (by decide) (backOf (W := 0) (rm12 l Z a0 hw [] b130 (0 : Int32) v7 (T144.heap) n0 Z152 F144_5 F144_2) hZ (hw _ (List.mem_of_getElem? (i := 78) rfl)) (hw _ (List.mem_of_getElem? (i := 36) rfl)) (by decide) (by decide)) q321a q321c (g := (mkF m 261 #[.val (.long q0), .second, .val (.long q1), .second, .val (.long q2), .second, .val (.int p3), .val (.long v2), .second, .val (.int v7), .val (.ref b106), .val (.ref b115), .val (.ref b130), .val (.int v70)] [(.ref b130)])) rfl (by rw [hml]; rfl) (Steps.refl _) (argsL := []) (rest := []) (lenOf pd13 rfl) rfl (by show 2 * 0 + _ ≤ _; exact Nat.le_of_eq rfl) (hb hby at_261) (fun _ _ => ⟨rfl, e319, (by decide : 3 + 0 ≤ _), (by decide : 9 + 0 ≤ _)⟩)
        dsimp only [Pt.U, Pt.locs, Pt.cells, Pt.slots] at X321 l321 y321 z321 st321 hQ321
        subst l321 y321 z321
        obtain ⟨rfl, N321q, e321⟩ := hQ321
        have N321 := Fr.app N319 N321q
        obtain ⟨T324, lc324, X324, N324, e324, st324⟩ := own_mrg (n0 := n0) (h := T144.heap) (g := (mkF m 275 #[.val (.long q0), .second, .val (.long q1), .second, .val (.long q2), .second, .val (.int p3), .val (.long v2), .second, .val (.int v7), .val (.ref b106), .val (.ref b115), .val (.ref b130), .val (.int v70)] [(.int (0 : Int32)), (.int (own_r12 (0 : Int32) v7))])) (g' := (mkF m 283 #[.val (.long q0), .second, .val (.long q1), .second, .val (.long q2), .second, .val (.int p3), .val (.long v2), .second, .val (.int v7), .val (.ref b106), .val (.ref b115), .val (.ref b130), .val (.int v70)] [(.int v63)])) X321 (by
          by_cases hc275_72 : (own_r12 (0 : Int32) v7) = (0 : Int32)
          · have hgo322 : ∀ t, Steps p.tables e below (T321.setTop (mkF m 283 #[.val (.long q0), .second, .val (.long q1), .second, .val (.long q2), .second, .val (.int p3), .val (.long v2), .second, .val (.int v7), .val (.ref b106), .val (.ref b115), .val (.ref b130), .val (.int v70)] [(.int (1 : Int32))])) t → Steps p.tables e below (T321.setTop (mkF m 275 #[.val (.long q0), .second, .val (.long q1), .second, .val (.long q2), .second, .val (.int p3), .val (.long v2), .second, .val (.int v7), .val (.ref b106), .val (.ref b115), .val (.ref b130), .val (.int v70)] [(.int (0 : Int32)), (.int (own_r12 (0 : Int32) v7))])) t := by
              intro t kt
              show Steps p.tables e below (T321.setTop (mkF m 275 #[.val (.long q0), .second, .val (.long q1), .second, .val (.long q2), .second, .val (.int p3), .val (.long v2), .second, .val (.int v7), .val (.ref b106), .val (.ref b115), .val (.ref b130), .val (.int v70)] [(.int (0 : Int32)), (.int (own_r12 (0 : Int32) v7))])) _
              refine XS.icmpNo X321.here hx rfl (hb hby at_275) rfl (teq hc275_72).2 ?_
              show Steps p.tables e below (T321.setTop (mkF m 278 #[.val (.long q0), .second, .val (.long q1), .second, .val (.long q2), .second, .val (.int p3), .val (.long v2), .second, .val (.int v7), .val (.ref b106), .val (.ref b115), .val (.ref b130), .val (.int v70)] [])) _
              refine XS.iconst X321.here hx rfl (hb hby at_278) ?_
              show Steps p.tables e below (T321.setTop (mkF m 279 #[.val (.long q0), .second, .val (.long q1), .second, .val (.long q2), .second, .val (.int p3), .val (.long v2), .second, .val (.int v7), .val (.ref b106), .val (.ref b115), .val (.ref b130), .val (.int v70)] [(.int (1 : Int32))])) _
              refine XS.goto X321.here hx rfl (pc0 := 279) (pc' := 283) rfl (hb hby at_279) (by decide) (by decide) ?_
              exact kt
            refine own_arm hgo322 ?_
            exact own_armEnd X321 N321 e321 (by rw [hv63.trans (if_pos hc275_72)])
          · have hgo323 : ∀ t, Steps p.tables e below (T321.setTop (mkF m 283 #[.val (.long q0), .second, .val (.long q1), .second, .val (.long q2), .second, .val (.int p3), .val (.long v2), .second, .val (.int v7), .val (.ref b106), .val (.ref b115), .val (.ref b130), .val (.int v70)] [(.int (0 : Int32))])) t → Steps p.tables e below (T321.setTop (mkF m 275 #[.val (.long q0), .second, .val (.long q1), .second, .val (.long q2), .second, .val (.int p3), .val (.long v2), .second, .val (.int v7), .val (.ref b106), .val (.ref b115), .val (.ref b130), .val (.int v70)] [(.int (0 : Int32)), (.int (own_r12 (0 : Int32) v7))])) t := by
              intro t kt
              show Steps p.tables e below (T321.setTop (mkF m 275 #[.val (.long q0), .second, .val (.long q1), .second, .val (.long q2), .second, .val (.int p3), .val (.long v2), .second, .val (.int v7), .val (.ref b106), .val (.ref b115), .val (.ref b130), .val (.int v70)] [(.int (0 : Int32)), (.int (own_r12 (0 : Int32) v7))])) _
              refine XS.icmpYes X321.here hx rfl (pc0 := 275) (pc' := 282) rfl (hb hby at_275) rfl (feq hc275_72).2 (by decide) (by decide) ?_
              show Steps p.tables e below (T321.setTop (mkF m 282 #[.val (.long q0), .second, .val (.long q1), .second, .val (.long q2), .second, .val (.int p3), .val (.long v2), .second, .val (.int v7), .val (.ref b106), .val (.ref b115), .val (.ref b130), .val (.int v70)] [])) _
              refine XS.iconst X321.here hx rfl (hb hby at_282) ?_
              exact kt
            refine own_arm hgo323 ?_
            exact own_armEnd X321 N321 e321 (by rw [hv63.trans (if_neg hc275_72)]))
        have hgo325 : ∀ t, Steps p.tables e below (T324.setTop (mkF m 283 #[.val (.long q0), .second, .val (.long q1), .second, .val (.long q2), .second, .val (.int p3), .val (.long v2), .second, .val (.int v7), .val (.ref b106), .val (.ref b115), .val (.ref b130), .val (.int v70)] [(.int v63)])) t → Steps p.tables e below (T319.setTop (mkF m 256 #[.val (.long q0), .second, .val (.long q1), .second, .val (.long q2), .second, .val (.int p3), .val (.long v2), .second, .val (.int v7), .val (.ref b106), .val (.ref b115), .val (.ref b130), .val (.int v70)] [(.int v70)])) t := by
          intro t kt
          show Steps p.tables e below (T319.setTop (mkF m 256 #[.val (.long q0), .second, .val (.long q1), .second, .val (.long q2), .second, .val (.int p3), .val (.long v2), .second, .val (.int v7), .val (.ref b106), .val (.ref b115), .val (.ref b130), .val (.int v70)] [(.int v70)])) _
          refine XS.ifNo X319.here hx rfl (hb hby at_256) rfl ((if0 _ _).trans (feq hc256_71).1) ?_
          show Steps p.tables e below (T319.setTop (mkF m 259 #[.val (.long q0), .second, .val (.long q1), .second, .val (.long q2), .second, .val (.int p3), .val (.long v2), .second, .val (.int v7), .val (.ref b106), .val (.ref b115), .val (.ref b130), .val (.int v70)] [])) _
          refine XS.aload X319.here hx rfl (hb hby at_259) rfl rfl ?_
          show Steps p.tables e below (T319.setTop (mkF m 261 #[.val (.long q0), .second, .val (.long q1), .second, .val (.long q2), .second, .val (.int p3), .val (.long v2), .second, .val (.int v7), .val (.ref b106), .val (.ref b115), .val (.ref b130), .val (.int v70)] [(.ref b130)])) _
          refine st321.trans ?_
          show Steps p.tables e below (T321.setTop (mkF m 264 #[.val (.long q0), .second, .val (.long q1), .second, .val (.long q2), .second, .val (.int p3), .val (.long v2), .second, .val (.int v7), .val (.ref b106), .val (.ref b115), .val (.ref b130), .val (.int v70)] [(.int (own_r12 (0 : Int32) v7))])) _
          refine XS.iconst X321.here hx rfl (hb hby at_264) ?_
          show Steps p.tables e below (T321.setTop (mkF m 265 #[.val (.long q0), .second, .val (.long q1), .second, .val (.long q2), .second, .val (.int p3), .val (.long v2), .second, .val (.int v7), .val (.ref b106), .val (.ref b115), .val (.ref b130), .val (.int v70)] [(.int (4 : Int32)), (.int (own_r12 (0 : Int32) v7))])) _
          refine XS.iload X321.here hx rfl (hb hby at_265) rfl ?_
          show Steps p.tables e below (T321.setTop (mkF m 267 #[.val (.long q0), .second, .val (.long q1), .second, .val (.long q2), .second, .val (.int p3), .val (.long v2), .second, .val (.int v7), .val (.ref b106), .val (.ref b115), .val (.ref b130), .val (.int v70)] [(.int v7), (.int (4 : Int32)), (.int (own_r12 (0 : Int32) v7))])) _
          refine XS.icmpYes X321.here hx rfl (pc0 := 267) (pc' := 274) rfl (hb hby at_267) rfl (flt (by have y0 := hc116_12; simp only [Int32.lt_iff_toInt_lt, ← Int32.toInt_inj, Int32.reduceToInt] at y0 ⊢; omega : ¬ ((4 : Int32) < v7))).2.1 (by decide) (by decide) ?_
          show Steps p.tables e below (T321.setTop (mkF m 274 #[.val (.long q0), .second, .val (.long q1), .second, .val (.long q2), .second, .val (.int p3), .val (.long v2), .second, .val (.int v7), .val (.ref b106), .val (.ref b115), .val (.ref b130), .val (.int v70)] [(.int (own_r12 (0 : Int32) v7))])) _
          refine XS.iconst X321.here hx rfl (hb hby at_274) ?_
          show Steps p.tables e below (T321.setTop (mkF m 275 #[.val (.long q0), .second, .val (.long q1), .second, .val (.long q2), .second, .val (.int p3), .val (.long v2), .second, .val (.int v7), .val (.ref b106), .val (.ref b115), .val (.ref b130), .val (.int v70)] [(.int (0 : Int32)), (.int (own_r12 (0 : Int32) v7))])) _
          refine st324 _ ?_
          exact kt
        refine own_arm hgo325 ?_
        exact own_armEnd X324 N324 e324 (by rw [hv73.trans (if_neg hc256_71)]))
    have hgo327 : ∀ t, Steps p.tables e below (T326.setTop (mkF m 287 #[.val (.long q0), .second, .val (.long q1), .second, .val (.long q2), .second, .val (.int p3), .val (.long v2), .second, .val (.int v7), .val (.ref b106), .val (.ref b115), .val (.ref b130), .val (.int v73)] [(.int v73)])) t → Steps p.tables e below (T160.setTop (mkF m 116 #[.val (.long q0), .second, .val (.long q1), .second, .val (.long q2), .second, .val (.int p3), .val (.long v2), .second, .val (.int v7), .val (.ref b106), .val (.ref b115), .val (.ref b130), .val (.int v11)] [(.int v7), (.int (0 : Int32))])) t := by
      intro t kt
      show Steps p.tables e below (T160.setTop (mkF m 116 #[.val (.long q0), .second, .val (.long q1), .second, .val (.long q2), .second, .val (.int p3), .val (.long v2), .second, .val (.int v7), .val (.ref b106), .val (.ref b115), .val (.ref b130), .val (.int v11)] [(.int v7), (.int (0 : Int32))])) _
      refine XS.icmpYes X160.here hx rfl (pc0 := 116) (pc' := 125) rfl (hb hby at_116) rfl (flt hc116_12).2.1 (by decide) (by decide) ?_
      show Steps p.tables e below (T160.setTop (mkF m 125 #[.val (.long q0), .second, .val (.long q1), .second, .val (.long q2), .second, .val (.int p3), .val (.long v2), .second, .val (.int v7), .val (.ref b106), .val (.ref b115), .val (.ref b130), .val (.int v11)] [])) _
      refine XS.iload X160.here hx rfl (hb hby at_125) rfl ?_
      show Steps p.tables e below (T160.setTop (mkF m 127 #[.val (.long q0), .second, .val (.long q1), .second, .val (.long q2), .second, .val (.int p3), .val (.long v2), .second, .val (.int v7), .val (.ref b106), .val (.ref b115), .val (.ref b130), .val (.int v11)] [(.int v11)])) _
      refine st305 _ ?_
      show Steps p.tables e below (T305.setTop (mkF m 154 #[.val (.long q0), .second, .val (.long q1), .second, .val (.long q2), .second, .val (.int p3), .val (.long v2), .second, .val (.int v7), .val (.ref b106), .val (.ref b115), .val (.ref b130), .val (.int v11)] [(.int v64)])) _
      refine XS.istore X305.here hx rfl (hb hby at_154) rfl (l' := #[.val (.long q0), .second, .val (.long q1), .second, .val (.long q2), .second, .val (.int p3), .val (.long v2), .second, .val (.int v7), .val (.ref b106), .val (.ref b115), .val (.ref b130), .val (.int v64)]) rfl ?_
      show Steps p.tables e below (T305.setTop (mkF m 156 #[.val (.long q0), .second, .val (.long q1), .second, .val (.long q2), .second, .val (.int p3), .val (.long v2), .second, .val (.int v7), .val (.ref b106), .val (.ref b115), .val (.ref b130), .val (.int v64)] [])) _
      refine XS.iconst X305.here hx rfl (hb hby at_156) ?_
      show Steps p.tables e below (T305.setTop (mkF m 157 #[.val (.long q0), .second, .val (.long q1), .second, .val (.long q2), .second, .val (.int p3), .val (.long v2), .second, .val (.int v7), .val (.ref b106), .val (.ref b115), .val (.ref b130), .val (.int v64)] [(.int (1 : Int32))])) _
      refine XS.iload X305.here hx rfl (hb hby at_157) rfl ?_
      show Steps p.tables e below (T305.setTop (mkF m 159 #[.val (.long q0), .second, .val (.long q1), .second, .val (.long q2), .second, .val (.int p3), .val (.long v2), .second, .val (.int v7), .val (.ref b106), .val (.ref b115), .val (.ref b130), .val (.int v64)] [(.int v7), (.int (1 : Int32))])) _
      refine XS.icmpYes X305.here hx rfl (pc0 := 159) (pc' := 168) rfl (hb hby at_159) rfl (flt (by have y0 := hc116_12; simp only [Int32.lt_iff_toInt_lt, ← Int32.toInt_inj, Int32.reduceToInt] at y0 ⊢; omega : ¬ ((1 : Int32) < v7))).2.1 (by decide) (by decide) ?_
      show Steps p.tables e below (T305.setTop (mkF m 168 #[.val (.long q0), .second, .val (.long q1), .second, .val (.long q2), .second, .val (.int p3), .val (.long v2), .second, .val (.int v7), .val (.ref b106), .val (.ref b115), .val (.ref b130), .val (.int v64)] [])) _
      refine XS.iload X305.here hx rfl (hb hby at_168) rfl ?_
      show Steps p.tables e below (T305.setTop (mkF m 170 #[.val (.long q0), .second, .val (.long q1), .second, .val (.long q2), .second, .val (.int p3), .val (.long v2), .second, .val (.int v7), .val (.ref b106), .val (.ref b115), .val (.ref b130), .val (.int v64)] [(.int v64)])) _
      refine st312 _ ?_
      show Steps p.tables e below (T312.setTop (mkF m 197 #[.val (.long q0), .second, .val (.long q1), .second, .val (.long q2), .second, .val (.int p3), .val (.long v2), .second, .val (.int v7), .val (.ref b106), .val (.ref b115), .val (.ref b130), .val (.int v64)] [(.int v67)])) _
      refine XS.istore X312.here hx rfl (hb hby at_197) rfl (l' := #[.val (.long q0), .second, .val (.long q1), .second, .val (.long q2), .second, .val (.int p3), .val (.long v2), .second, .val (.int v7), .val (.ref b106), .val (.ref b115), .val (.ref b130), .val (.int v67)]) rfl ?_
      show Steps p.tables e below (T312.setTop (mkF m 199 #[.val (.long q0), .second, .val (.long q1), .second, .val (.long q2), .second, .val (.int p3), .val (.long v2), .second, .val (.int v7), .val (.ref b106), .val (.ref b115), .val (.ref b130), .val (.int v67)] [])) _
      refine XS.iconst X312.here hx rfl (hb hby at_199) ?_
      show Steps p.tables e below (T312.setTop (mkF m 200 #[.val (.long q0), .second, .val (.long q1), .second, .val (.long q2), .second, .val (.int p3), .val (.long v2), .second, .val (.int v7), .val (.ref b106), .val (.ref b115), .val (.ref b130), .val (.int v67)] [(.int (2 : Int32))])) _
      refine XS.iload X312.here hx rfl (hb hby at_200) rfl ?_
      show Steps p.tables e below (T312.setTop (mkF m 202 #[.val (.long q0), .second, .val (.long q1), .second, .val (.long q2), .second, .val (.int p3), .val (.long v2), .second, .val (.int v7), .val (.ref b106), .val (.ref b115), .val (.ref b130), .val (.int v67)] [(.int v7), (.int (2 : Int32))])) _
      refine XS.icmpYes X312.here hx rfl (pc0 := 202) (pc' := 211) rfl (hb hby at_202) rfl (flt (by have y0 := hc116_12; simp only [Int32.lt_iff_toInt_lt, ← Int32.toInt_inj, Int32.reduceToInt] at y0 ⊢; omega : ¬ ((2 : Int32) < v7))).2.1 (by decide) (by decide) ?_
      show Steps p.tables e below (T312.setTop (mkF m 211 #[.val (.long q0), .second, .val (.long q1), .second, .val (.long q2), .second, .val (.int p3), .val (.long v2), .second, .val (.int v7), .val (.ref b106), .val (.ref b115), .val (.ref b130), .val (.int v67)] [])) _
      refine XS.iload X312.here hx rfl (hb hby at_211) rfl ?_
      show Steps p.tables e below (T312.setTop (mkF m 213 #[.val (.long q0), .second, .val (.long q1), .second, .val (.long q2), .second, .val (.int p3), .val (.long v2), .second, .val (.int v7), .val (.ref b106), .val (.ref b115), .val (.ref b130), .val (.int v67)] [(.int v67)])) _
      refine st319 _ ?_
      show Steps p.tables e below (T319.setTop (mkF m 240 #[.val (.long q0), .second, .val (.long q1), .second, .val (.long q2), .second, .val (.int p3), .val (.long v2), .second, .val (.int v7), .val (.ref b106), .val (.ref b115), .val (.ref b130), .val (.int v67)] [(.int v70)])) _
      refine XS.istore X319.here hx rfl (hb hby at_240) rfl (l' := #[.val (.long q0), .second, .val (.long q1), .second, .val (.long q2), .second, .val (.int p3), .val (.long v2), .second, .val (.int v7), .val (.ref b106), .val (.ref b115), .val (.ref b130), .val (.int v70)]) rfl ?_
      show Steps p.tables e below (T319.setTop (mkF m 242 #[.val (.long q0), .second, .val (.long q1), .second, .val (.long q2), .second, .val (.int p3), .val (.long v2), .second, .val (.int v7), .val (.ref b106), .val (.ref b115), .val (.ref b130), .val (.int v70)] [])) _
      refine XS.iconst X319.here hx rfl (hb hby at_242) ?_
      show Steps p.tables e below (T319.setTop (mkF m 243 #[.val (.long q0), .second, .val (.long q1), .second, .val (.long q2), .second, .val (.int p3), .val (.long v2), .second, .val (.int v7), .val (.ref b106), .val (.ref b115), .val (.ref b130), .val (.int v70)] [(.int (3 : Int32))])) _
      refine XS.iload X319.here hx rfl (hb hby at_243) rfl ?_
      show Steps p.tables e below (T319.setTop (mkF m 245 #[.val (.long q0), .second, .val (.long q1), .second, .val (.long q2), .second, .val (.int p3), .val (.long v2), .second, .val (.int v7), .val (.ref b106), .val (.ref b115), .val (.ref b130), .val (.int v70)] [(.int v7), (.int (3 : Int32))])) _
      refine XS.icmpYes X319.here hx rfl (pc0 := 245) (pc' := 254) rfl (hb hby at_245) rfl (flt (by have y0 := hc116_12; simp only [Int32.lt_iff_toInt_lt, ← Int32.toInt_inj, Int32.reduceToInt] at y0 ⊢; omega : ¬ ((3 : Int32) < v7))).2.1 (by decide) (by decide) ?_
      show Steps p.tables e below (T319.setTop (mkF m 254 #[.val (.long q0), .second, .val (.long q1), .second, .val (.long q2), .second, .val (.int p3), .val (.long v2), .second, .val (.int v7), .val (.ref b106), .val (.ref b115), .val (.ref b130), .val (.int v70)] [])) _
      refine XS.iload X319.here hx rfl (hb hby at_254) rfl ?_
      show Steps p.tables e below (T319.setTop (mkF m 256 #[.val (.long q0), .second, .val (.long q1), .second, .val (.long q2), .second, .val (.int p3), .val (.long v2), .second, .val (.int v7), .val (.ref b106), .val (.ref b115), .val (.ref b130), .val (.int v70)] [(.int v70)])) _
      refine st326 _ ?_
      show Steps p.tables e below (T326.setTop (mkF m 283 #[.val (.long q0), .second, .val (.long q1), .second, .val (.long q2), .second, .val (.int p3), .val (.long v2), .second, .val (.int v7), .val (.ref b106), .val (.ref b115), .val (.ref b130), .val (.int v70)] [(.int v73)])) _
      refine XS.istore X326.here hx rfl (hb hby at_283) rfl (l' := #[.val (.long q0), .second, .val (.long q1), .second, .val (.long q2), .second, .val (.int p3), .val (.long v2), .second, .val (.int v7), .val (.ref b106), .val (.ref b115), .val (.ref b130), .val (.int v73)]) rfl ?_
      show Steps p.tables e below (T326.setTop (mkF m 285 #[.val (.long q0), .second, .val (.long q1), .second, .val (.long q2), .second, .val (.int p3), .val (.long v2), .second, .val (.int v7), .val (.ref b106), .val (.ref b115), .val (.ref b130), .val (.int v73)] [])) _
      refine XS.iload X326.here hx rfl (hb hby at_285) rfl ?_
      exact kt
    refine own_go hgo327 ?_
    have hz328 : v73 = 1 := own_leaf4 (q0 := q0) (q1 := q1) (q2 := q2) (p3 := p3) hv1 hv2 hv4 hv5 hv6 hv7 hv9 hv11 hv63 hv64 hv67 hv70 hv73 hc116_12
    exact own_retZ X326 hx Bd.returns Bd.notSynchronized (hb hby at_287) (by decide) (by decide) (Or.inr hz328) ⟨by rw [hz328], N326⟩
set_option maxRecDepth 65536 in
set_option maxHeartbeats 40000000 in
theorem comes_1 {Post : Tables → Env → Array Value → State → Outcome → State → Prop} (hpost : ∀ tb e args s v u, (limb_1_1.after args s (.returned v) u = true ∧ limb_1_2.after args s (.returned v) u = true ∧ True) → FrameEnd s (.returned v) u (Jvm.fieldLocs frame_1_writes args s ++ Jvm.arrayLocs frame_1_arrays args s ++ Jvm.staticLocs frame_1_statics s) 16 128 → Post tb e args s (.returned v) u) :
    ArmFor flags0 classFile x code maxLocals ret World_1 tables_1 room_1 Calls_1 rest_1 Pre_1 Post := by
  intro l hfl _ _ p e ha hc hk s m args below hf hA hF happ hP
  obtain ⟨hcalls, hrest, hpre⟩ := hP
  obtain ⟨-, -, -, hnamed, -, -, -, hat⟩ := (Spec.applies_iff hf).mp happ
  obtain ⟨hg, hn⟩ := and_e (Cond.before_iff.mp (show (Jvm.Cond.and given_1 narrow_1).before args s = true from hpre))
  obtain ⟨gg1, gg2⟩ := and_e hg
  obtain ⟨gg3, gg4⟩ := and_e gg2
  obtain ⟨gg5, gg6⟩ := and_e gg4
  obtain ⟨gg7, gg8⟩ := and_e gg6
  obtain ⟨w0, w1, w2, w3, rfl⟩ : ∃ w0 w1 w2 w3 : Value, args = #[w0, w1, w2, w3] := by
    have hs : args.size = 4 := by simpa [Cond.value, given_1] using gg1
    obtain ⟨L⟩ := args
    match L, hs with
    | [w0, w1, w2, w3], _ => exact ⟨w0, w1, w2, w3, rfl⟩
  have hw := fun d (hd : d ∈ tables_1) => atoms_spec (ws := Jvm.Cond.code x code maxLocals ret :: tables_1) hat d (List.mem_cons_of_mem _ hd)
  have hfit : Fit s := fun {y c} hc i hi => by
    obtain ⟨ha, rfl⟩ := Array.getElem?_eq_some_iff.mp hc
    have q := List.all_eq_true.mp ((Array.all_eq_true_iff_forall_mem.mp hF) _ (Array.getElem_mem ha)) i (List.mem_range.mpr hi)
    simpa [Array.getElem?_eq_getElem hi] using q
  obtain ⟨i0, ei0⟩ := isL_v gg3
  obtain rfl : w0 = (.long i0) := Option.some.inj ei0
  obtain ⟨i1, ei1⟩ := isL_v gg5
  obtain rfl : w1 = (.long i1) := Option.some.inj ei1
  obtain ⟨i2, ei2⟩ := isL_v gg7
  obtain rfl : w2 = (.long i2) := Option.some.inj ei2
  obtain ⟨i3, ei3⟩ := is_v gg8
  obtain rfl : w3 = (.int i3) := Option.some.inj ei3
  obtain ⟨n, o, h1, h2, h3, _, L, rfl, ⟨rfl, N⟩, hq⟩ := rm0 l s _ hw tables_1 i0 i1 i2 i3 s.heap s.heap.size (Nat.le_refl _)  p e ha hc hk s m _ below hf ((Spec.applies_iff_loose hf).mp happ).1 ⟨rfl, State.Warmed39.refl s, rfl⟩ trivial
  refine ⟨n, _, h1, h2, h3, hpost _ _ _ _ _ _ ⟨Cond.after_iff.mpr rfl, Cond.after_iff.mpr (eq_i res_at (Term.int_eval (1)) rfl), trivial⟩ ⟨hq.1, hq.2.1, (hq.2.2.sift fun y hy => Or.inr (N y hy)).mono (by decide) (by decide)⟩⟩
theorem main_1_1 : Claimed_1_1 := comes_1 fun _ _ _ _ _ _ h hF => ⟨h.1, hF⟩
theorem main_1_2 : Claimed_1_2 := comes_1 fun _ _ _ _ _ _ h hF => ⟨h.2.1, hF⟩
end Jvm.Pilot.@@N@@
namespace Jvm.Pilot.@@N@@
open Jvm Jvm.ClassFile Sem Op Lib Jvm.Free Jvm.Stand Jvm.Pilot.@@N@@.Jvm.D
/-! MADE BY PROGRAM (witnessworld.py) out of the Statement's table words and the real class files: 18 classes; the members and pool entries that the words name. The judged class is class 1, her method 1. -/
namespace start1
open Jvm.ClassFile
def u (s : String) : CpInfo := .utf8 (stringToUtf16 s)
/-- a pool by its gaps: so many unusable entries, then the entry; so many at the end -/
def gap : Nat → List CpInfo → List CpInfo
  | 0, r => r
  | n + 1, r => .unusable :: gap n r
def poolList (es : List (Nat × CpInfo)) (last : Nat) : List CpInfo := es.foldr (fun e r => gap e.1 (e.2 :: r)) (gap last [])
def pool (es : List (Nat × CpInfo)) (last : Nat) : Array CpInfo := ⟨poolList es last⟩
def fileOf (pool : Array CpInfo) (this : Nat) (attrs : Array Attribute := #[]) (ms : Array MethodInfo := #[]) (fl : Nat := 33) (sup : Nat := 0) (ifs : Array Nat := #[]) (fds : Array FieldInfo := #[]) : ClassFile where
  minorVersion := 0
  majorVersion := 65
  constantPool := pool
  accessFlags := fl
  thisClass := this
  superClass := sup
  interfaces := ifs
  fields := fds
  methods := ms
  attributes := attrs
def plain (name : String) (sup : Option ClassId) : Class where
  name := name
  kind := .ordinary
  loader := none
  accessFlags := 33
  super := sup
  interfaces := #[]
  cf := none
  fields := #[]
  methods := #[]
  instanceTypes := #[]
  staticTypes := #[]
  resolved := #[]
  callSites := []
  init := .initialized
  statics := none
  mirror := none

def pool0 : Array CpInfo := pool [(5, u "<init>"), (0, u "()V"), (1, .class_ 10), (1, u "java/lang/Object")] 113

def k0c0 : Code := { maxStack := 0, maxLocals := 1, code := object_method_1_code, exceptionTable := #[], attributes := #[] }
def k0m0 : Method := { name := "<init>", desc := "()V", sig := { parameters := [], returnType := none }, accessFlags := 1, code := some k0c0 }
/-- java/lang/Object -/
def k0 : Class := { plain "java/lang/Object" none with
  accessFlags := 33
  interfaces := #[]
  cf := some (fileOf pool0 8 #[] #[{ accessFlags := 1, nameIndex := 5, descriptorIndex := 6, attributes := #[] }] 33 0 #[] #[])
  fields := #[]
  methods := #[k0m0]
  instanceTypes := #[]
  staticTypes := #[]
  resolved := Array.replicate 124 none
  statics := none }

def pool1 : Array CpInfo := pool [(2, .class_ 4), (1, u "java/lang/Object"), (0, u "<init>"), (0, u "()V"), (0, .long 4611686018427387903), (1, .methodref 10 11), (0, .class_ 12), (0, .nameAndType 13 14), (0, u "java/lang/Math"), (0, u "max"), (0, u "(JJ)J"), (0, .methodref 10 16), (0, .nameAndType 13 17), (0, u "(II)I"), (0, .class_ 19), (0, u "com/example/upper_falls/upperfalls/KeyHash"), (0, .methodref 18 21), (0, .nameAndType 5 22), (0, u "(JJ)V"), (0, .class_ 24), (0, u "com/example/upper_falls/upperfalls/FilterSize"), (0, .methodref 23 26), (0, .nameAndType 5 27), (0, u "(JI)V"), (0, .class_ 29), (0, u "com/example/upper_falls/upperfalls/KeyPositions"), (0, .methodref 28 31), (0, .nameAndType 5 32), (0, u "(Lcom/example/upper_falls/upperfalls/KeyHash;Lcom/example/upper_falls/upperfalls/FilterSize;)V"), (0, .methodref 28 34), (0, .nameAndType 35 36), (0, u "hasNext"), (0, u "()Z"), (0, .methodref 28 38), (0, .nameAndType 39 40), (0, u "next"), (0, u "()J"), (0, .class_ 42), (0, u "com/example/upper_falls/upperfalls/KeyPositionsHasNextPinLaw"), (2, u "law"), (0, u "(JJJI)Z")] 3

def k1m0 : Method := { name := "<init>", desc := "()V", sig := { parameters := [], returnType := none }, accessFlags := 1, code := none }
def k1c1 : Code := { maxStack := 6, maxLocals := 14, code := code, exceptionTable := #[], attributes := #[] }
def k1m1 : Method := { name := "law", desc := "(JJJI)Z", sig := { parameters := [.long, .long, .long, .int], returnType := some .boolean }, accessFlags := 9, code := some k1c1 }
/-- com/example/upper_falls/upperfalls/KeyPositionsHasNextPinLaw -/
def k1 : Class := { plain "com/example/upper_falls/upperfalls/KeyPositionsHasNextPinLaw" (some 0) with
  accessFlags := 49
  interfaces := #[]
  cf := some (fileOf pool1 41 #[] #[{ accessFlags := 1, nameIndex := 5, descriptorIndex := 6, attributes := #[] }, { accessFlags := 9, nameIndex := 45, descriptorIndex := 46, attributes := #[] }] 49 2 #[] #[])
  fields := #[]
  methods := #[k1m0, k1m1]
  instanceTypes := #[]
  staticTypes := #[]
  resolved := Array.replicate 50 none
  statics := none }

def pool2 : Array CpInfo := pool [(1, .class_ 2), (0, u "java/lang/Math"), (1, .class_ 6), (1, u "java/lang/Object"), (0, u "<init>"), (0, u "()V"), (89, .class_ 100), (1, u "java/lang/Math$RandomNumberGeneratorHolder"), (20, u "(JJ)J"), (50, u "negativeZeroFloatBits"), (0, u "J"), (2, u "negativeZeroDoubleBits"), (21, u "max"), (46, u "$assertionsDisabled"), (0, u "Z"), (88, u "(II)I"), (2, u "twoToTheDoubleScaleDown"), (0, u "D"), (4, u "twoToTheDoubleScaleUp"), (9, u "E"), (3, u "PI"), (2, u "TAU"), (2, u "DEGREES_TO_RADIANS"), (0, u "RADIANS_TO_DEGREES")] 94

def k2m0 : Method := { name := "<init>", desc := "()V", sig := { parameters := [], returnType := none }, accessFlags := 2, code := none }
def k2c1 : Code := { maxStack := 2, maxLocals := 2, code := jdk_29_method_65_code, exceptionTable := #[], attributes := #[] }
def k2m1 : Method := { name := "max", desc := "(II)I", sig := { parameters := [.int, .int], returnType := some .int }, accessFlags := 9, code := some k2c1 }
def k2c2 : Code := { maxStack := 4, maxLocals := 4, code := jdk_29_method_66_code, exceptionTable := #[], attributes := #[] }
def k2m2 : Method := { name := "max", desc := "(JJ)J", sig := { parameters := [.long, .long], returnType := some .long }, accessFlags := 9, code := some k2c2 }
/-- java/lang/Math -/
def k2 : Class := { plain "java/lang/Math" (some 0) with
  accessFlags := 49
  interfaces := #[]
  cf := some (fileOf pool2 1 #[.nestMembers #[98]] #[{ accessFlags := 2, nameIndex := 7, descriptorIndex := 8, attributes := #[] }, { accessFlags := 9, nameIndex := 198, descriptorIndex := 335, attributes := #[] }, { accessFlags := 9, nameIndex := 198, descriptorIndex := 121, attributes := #[] }] 49 4 #[] #[{ accessFlags := 25, nameIndex := 354, descriptorIndex := 339, attributes := #[] }, { accessFlags := 25, nameIndex := 358, descriptorIndex := 339, attributes := #[] }, { accessFlags := 25, nameIndex := 361, descriptorIndex := 339, attributes := #[] }, { accessFlags := 26, nameIndex := 364, descriptorIndex := 339, attributes := #[] }, { accessFlags := 26, nameIndex := 365, descriptorIndex := 339, attributes := #[] }, { accessFlags := 26, nameIndex := 172, descriptorIndex := 173, attributes := #[] }, { accessFlags := 26, nameIndex := 176, descriptorIndex := 173, attributes := #[] }, { accessFlags := 8, nameIndex := 344, descriptorIndex := 339, attributes := #[] }, { accessFlags := 8, nameIndex := 338, descriptorIndex := 339, attributes := #[] }, { accessFlags := 4120, nameIndex := 245, descriptorIndex := 246, attributes := #[] }])
  fields := #[{ name := "E", type := .double, accessFlags := 25, slot := 0, constantValue := 0 }, { name := "PI", type := .double, accessFlags := 25, slot := 1, constantValue := 0 }, { name := "TAU", type := .double, accessFlags := 25, slot := 2, constantValue := 0 }, { name := "DEGREES_TO_RADIANS", type := .double, accessFlags := 26, slot := 3, constantValue := 0 }, { name := "RADIANS_TO_DEGREES", type := .double, accessFlags := 26, slot := 4, constantValue := 0 }, { name := "negativeZeroFloatBits", type := .long, accessFlags := 26, slot := 5, constantValue := 0 }, { name := "negativeZeroDoubleBits", type := .long, accessFlags := 26, slot := 6, constantValue := 0 }, { name := "twoToTheDoubleScaleUp", type := .double, accessFlags := 8, slot := 7, constantValue := 0 }, { name := "twoToTheDoubleScaleDown", type := .double, accessFlags := 8, slot := 8, constantValue := 0 }, { name := "$assertionsDisabled", type := .boolean, accessFlags := 4120, slot := 9, constantValue := 0 }]
  methods := #[k2m0, k2m1, k2m2]
  instanceTypes := #[]
  staticTypes := #[.double, .double, .double, .double, .double, .long, .long, .double, .double, .boolean]
  resolved := Array.replicate 460 none
  statics := none }

def pool3 : Array CpInfo := pool [(1, .methodref 2 3), (0, .class_ 4), (0, .nameAndType 5 6), (0, u "java/lang/Object"), (0, u "<init>"), (0, u "()V"), (0, .class_ 8), (0, u "java/lang/Record")] 13

def k3c0 : Code := { maxStack := 1, maxLocals := 1, code := jdk_30_method_1_code, exceptionTable := #[], attributes := #[] }
def k3m0 : Method := { name := "<init>", desc := "()V", sig := { parameters := [], returnType := none }, accessFlags := 4, code := some k3c0 }
/-- java/lang/Record -/
def k3 : Class := { plain "java/lang/Record" (some 0) with
  accessFlags := 1057
  interfaces := #[]
  cf := some (fileOf pool3 7 #[] #[{ accessFlags := 4, nameIndex := 5, descriptorIndex := 6, attributes := #[] }] 1057 2 #[] #[])
  fields := #[]
  methods := #[k3m0]
  instanceTypes := #[]
  staticTypes := #[]
  resolved := Array.replicate 22 none
  statics := none }

def pool4 : Array CpInfo := pool [(1, .methodref 2 3), (0, .class_ 4), (0, .nameAndType 5 6), (0, u "java/lang/Record"), (0, u "<init>"), (0, u "()V"), (0, .fieldref 8 9), (0, .class_ 10), (0, .nameAndType 11 12), (0, u "com/example/upper_falls/upperfalls/KeyHash"), (0, u "h1"), (0, u "J"), (0, .fieldref 8 14), (0, .nameAndType 15 12), (0, u "h2"), (8, u "LITTLE_ENDIAN_LONG"), (0, u "Ljava/lang/invoke/VarHandle;"), (34, u "(JJ)V"), (38, u "C1"), (1, u "C2"), (0, u "BLOCK_BYTES"), (0, u "I"), (12, u "()J")] 20

def k4c0 : Code := { maxStack := 3, maxLocals := 5, code := prog_14_method_1_code, exceptionTable := #[], attributes := #[] }
def k4m0 : Method := { name := "<init>", desc := "(JJ)V", sig := { parameters := [.long, .long], returnType := none }, accessFlags := 0, code := some k4c0 }
def k4c1 : Code := { maxStack := 2, maxLocals := 1, code := prog_14_method_10_code, exceptionTable := #[], attributes := #[] }
def k4m1 : Method := { name := "h1", desc := "()J", sig := { parameters := [], returnType := some .long }, accessFlags := 1, code := some k4c1 }
def k4c2 : Code := { maxStack := 2, maxLocals := 1, code := prog_14_method_11_code, exceptionTable := #[], attributes := #[] }
def k4m2 : Method := { name := "h2", desc := "()J", sig := { parameters := [], returnType := some .long }, accessFlags := 1, code := some k4c2 }
/-- com/example/upper_falls/upperfalls/KeyHash -/
def k4 : Class := { plain "com/example/upper_falls/upperfalls/KeyHash" (some 3) with
  accessFlags := 48
  interfaces := #[]
  cf := some (fileOf pool4 8 #[] #[{ accessFlags := 0, nameIndex := 5, descriptorIndex := 60, attributes := #[] }, { accessFlags := 1, nameIndex := 11, descriptorIndex := 116, attributes := #[] }, { accessFlags := 1, nameIndex := 15, descriptorIndex := 116, attributes := #[] }] 48 2 #[] #[{ accessFlags := 18, nameIndex := 11, descriptorIndex := 12, attributes := #[] }, { accessFlags := 18, nameIndex := 15, descriptorIndex := 12, attributes := #[] }, { accessFlags := 26, nameIndex := 24, descriptorIndex := 25, attributes := #[] }, { accessFlags := 26, nameIndex := 99, descriptorIndex := 12, attributes := #[] }, { accessFlags := 26, nameIndex := 101, descriptorIndex := 12, attributes := #[] }, { accessFlags := 26, nameIndex := 102, descriptorIndex := 103, attributes := #[] }])
  fields := #[{ name := "h1", type := .long, accessFlags := 18, slot := 0, constantValue := 0 }, { name := "h2", type := .long, accessFlags := 18, slot := 1, constantValue := 0 }, { name := "LITTLE_ENDIAN_LONG", type := (.object "java/lang/invoke/VarHandle"), accessFlags := 26, slot := 0, constantValue := 0 }, { name := "C1", type := .long, accessFlags := 26, slot := 1, constantValue := 0 }, { name := "C2", type := .long, accessFlags := 26, slot := 2, constantValue := 0 }, { name := "BLOCK_BYTES", type := .int, accessFlags := 26, slot := 3, constantValue := 0 }]
  methods := #[k4m0, k4m1, k4m2]
  instanceTypes := #[.long, .long]
  staticTypes := #[(.object "java/lang/invoke/VarHandle"), .long, .long, .int]
  resolved := Array.replicate 137 none
  statics := none }

def pool5 : Array CpInfo := pool [(1, .methodref 2 3), (0, .class_ 4), (0, .nameAndType 5 6), (0, u "java/lang/Record"), (0, u "<init>"), (0, u "()V"), (12, .fieldref 20 21), (0, .class_ 22), (0, .nameAndType 23 24), (0, u "com/example/upper_falls/upperfalls/FilterSize"), (0, u "bits"), (0, u "J"), (0, .fieldref 20 26), (0, .nameAndType 27 28), (0, u "hashes"), (0, u "I"), (12, u "LN_2"), (0, u "D"), (24, u "(JI)V"), (21, u "()I"), (1, u "()J")] 38

def k5c0 : Code := { maxStack := 4, maxLocals := 4, code := prog_12_method_1_code, exceptionTable := #[], attributes := #[] }
def k5m0 : Method := { name := "<init>", desc := "(JI)V", sig := { parameters := [.long, .int], returnType := none }, accessFlags := 1, code := some k5c0 }
def k5c1 : Code := { maxStack := 2, maxLocals := 1, code := prog_12_method_6_code, exceptionTable := #[], attributes := #[] }
def k5m1 : Method := { name := "bits", desc := "()J", sig := { parameters := [], returnType := some .long }, accessFlags := 1, code := some k5c1 }
def k5c2 : Code := { maxStack := 1, maxLocals := 1, code := prog_12_method_7_code, exceptionTable := #[], attributes := #[] }
def k5m2 : Method := { name := "hashes", desc := "()I", sig := { parameters := [], returnType := some .int }, accessFlags := 1, code := some k5c2 }
/-- com/example/upper_falls/upperfalls/FilterSize -/
def k5 : Class := { plain "com/example/upper_falls/upperfalls/FilterSize" (some 3) with
  accessFlags := 49
  interfaces := #[]
  cf := some (fileOf pool5 20 #[] #[{ accessFlags := 1, nameIndex := 5, descriptorIndex := 67, attributes := #[] }, { accessFlags := 1, nameIndex := 23, descriptorIndex := 91, attributes := #[] }, { accessFlags := 1, nameIndex := 27, descriptorIndex := 89, attributes := #[] }] 49 2 #[] #[{ accessFlags := 18, nameIndex := 23, descriptorIndex := 24, attributes := #[] }, { accessFlags := 18, nameIndex := 27, descriptorIndex := 28, attributes := #[] }, { accessFlags := 26, nameIndex := 41, descriptorIndex := 42, attributes := #[] }])
  fields := #[{ name := "bits", type := .long, accessFlags := 18, slot := 0, constantValue := 0 }, { name := "hashes", type := .int, accessFlags := 18, slot := 1, constantValue := 0 }, { name := "LN_2", type := .double, accessFlags := 26, slot := 0, constantValue := 0 }]
  methods := #[k5m0, k5m1, k5m2]
  instanceTypes := #[.long, .int]
  staticTypes := #[.double]
  resolved := Array.replicate 130 none
  statics := none }

def pool6 : Array CpInfo := pool [(1, .methodref 2 3), (0, .class_ 4), (0, .nameAndType 5 6), (0, u "java/lang/Object"), (0, u "<init>"), (0, u "()V"), (0, .methodref 8 9), (0, .class_ 10), (0, .nameAndType 11 12), (0, u "com/example/upper_falls/upperfalls/FilterSize"), (0, u "bits"), (0, u "()J"), (0, .fieldref 14 15), (0, .class_ 16), (0, .nameAndType 11 17), (0, u "com/example/upper_falls/upperfalls/KeyPositions"), (0, u "J"), (0, .methodref 8 19), (0, .nameAndType 20 21), (0, u "hashes"), (0, u "()I"), (0, .fieldref 14 23), (0, .nameAndType 20 24), (0, u "I"), (0, .methodref 26 27), (0, .class_ 28), (0, .nameAndType 29 12), (0, u "com/example/upper_falls/upperfalls/KeyHash"), (0, u "h1"), (0, .methodref 31 32), (0, .class_ 33), (0, .nameAndType 34 35), (0, u "java/lang/Long"), (0, u "remainderUnsigned"), (0, u "(JJ)J"), (0, .fieldref 14 37), (0, .nameAndType 38 17), (0, u "position"), (0, .methodref 26 40), (0, .nameAndType 41 12), (0, u "h2"), (0, .fieldref 14 43), (0, .nameAndType 44 17), (0, u "step"), (0, .fieldref 14 46), (0, .nameAndType 47 24), (0, u "index"), (3, u "(Lcom/example/upper_falls/upperfalls/KeyHash;Lcom/example/upper_falls/upperfalls/FilterSize;)V"), (2, u "hasNext"), (0, u "()Z"), (1, u "next")] 2

def k6c0 : Code := { maxStack := 5, maxLocals := 3, code := prog_15_method_1_code, exceptionTable := #[], attributes := #[] }
def k6m0 : Method := { name := "<init>", desc := "(Lcom/example/upper_falls/upperfalls/KeyHash;Lcom/example/upper_falls/upperfalls/FilterSize;)V", sig := { parameters := [(.object "com/example/upper_falls/upperfalls/KeyHash"), (.object "com/example/upper_falls/upperfalls/FilterSize")], returnType := none }, accessFlags := 0, code := some k6c0 }
def k6c1 : Code := { maxStack := 2, maxLocals := 1, code := prog_15_method_2_code, exceptionTable := #[], attributes := #[] }
def k6m1 : Method := { name := "hasNext", desc := "()Z", sig := { parameters := [], returnType := some .boolean }, accessFlags := 0, code := some k6c1 }
def k6c2 : Code := { maxStack := 5, maxLocals := 3, code := prog_15_method_3_code, exceptionTable := #[], attributes := #[] }
def k6m2 : Method := { name := "next", desc := "()J", sig := { parameters := [], returnType := some .long }, accessFlags := 0, code := some k6c2 }
/-- com/example/upper_falls/upperfalls/KeyPositions -/
def k6 : Class := { plain "com/example/upper_falls/upperfalls/KeyPositions" (some 0) with
  accessFlags := 32
  interfaces := #[]
  cf := some (fileOf pool6 14 #[] #[{ accessFlags := 0, nameIndex := 5, descriptorIndex := 51, attributes := #[] }, { accessFlags := 0, nameIndex := 54, descriptorIndex := 55, attributes := #[] }, { accessFlags := 0, nameIndex := 57, descriptorIndex := 12, attributes := #[] }] 32 2 #[] #[{ accessFlags := 18, nameIndex := 11, descriptorIndex := 17, attributes := #[] }, { accessFlags := 18, nameIndex := 20, descriptorIndex := 24, attributes := #[] }, { accessFlags := 2, nameIndex := 38, descriptorIndex := 17, attributes := #[] }, { accessFlags := 2, nameIndex := 44, descriptorIndex := 17, attributes := #[] }, { accessFlags := 2, nameIndex := 47, descriptorIndex := 24, attributes := #[] }])
  fields := #[{ name := "bits", type := .long, accessFlags := 18, slot := 0, constantValue := 0 }, { name := "hashes", type := .int, accessFlags := 18, slot := 1, constantValue := 0 }, { name := "position", type := .long, accessFlags := 2, slot := 2, constantValue := 0 }, { name := "step", type := .long, accessFlags := 2, slot := 3, constantValue := 0 }, { name := "index", type := .int, accessFlags := 2, slot := 4, constantValue := 0 }]
  methods := #[k6m0, k6m1, k6m2]
  instanceTypes := #[.long, .int, .long, .long, .int]
  staticTypes := #[]
  resolved := Array.replicate 60 none
  statics := none }

def pool7 : Array CpInfo := pool [(1, .class_ 2), (0, u "java/io/Serializable"), (0, .class_ 4), (0, u "java/lang/Object")] 2

/-- java/io/Serializable -/
def k7 : Class := { plain "java/io/Serializable" (some 0) with
  accessFlags := 1537
  interfaces := #[]
  cf := some (fileOf pool7 1 #[] #[] 1537 3 #[] #[])
  fields := #[]
  methods := #[]
  instanceTypes := #[]
  staticTypes := #[]
  resolved := Array.replicate 7 none
  statics := none }

def pool8 : Array CpInfo := pool [(2, .class_ 4), (1, u "java/lang/Object"), (0, u "<init>"), (0, u "()V"), (1, .class_ 10), (1, u "java/lang/Number"), (2, .class_ 14), (0, u "java/io/Serializable"), (0, u "serialVersionUID"), (0, u "J")] 20

def k8m0 : Method := { name := "<init>", desc := "()V", sig := { parameters := [], returnType := none }, accessFlags := 1, code := none }
/-- java/lang/Number -/
def k8 : Class := { plain "java/lang/Number" (some 0) with
  accessFlags := 1057
  interfaces := #[7]
  cf := some (fileOf pool8 8 #[] #[{ accessFlags := 1, nameIndex := 5, descriptorIndex := 6, attributes := #[] }] 1057 2 #[13] #[{ accessFlags := 26, nameIndex := 15, descriptorIndex := 16, attributes := #[] }])
  fields := #[{ name := "serialVersionUID", type := .long, accessFlags := 26, slot := 0, constantValue := 0 }]
  methods := #[k8m0]
  instanceTypes := #[]
  staticTypes := #[.long]
  resolved := Array.replicate 37 none
  statics := none }

def pool9 : Array CpInfo := pool [(1, .class_ 2), (0, u "java/lang/Comparable"), (0, .class_ 4), (0, u "java/lang/Object")] 7

/-- java/lang/Comparable -/
def k9 : Class := { plain "java/lang/Comparable" (some 0) with
  accessFlags := 1537
  interfaces := #[]
  cf := some (fileOf pool9 1 #[] #[] 1537 3 #[] #[])
  fields := #[]
  methods := #[]
  instanceTypes := #[]
  staticTypes := #[]
  resolved := Array.replicate 12 none
  statics := none }

def pool10 : Array CpInfo := pool [(1, .class_ 2), (0, u "java/lang/constant/Constable"), (0, .class_ 4), (0, u "java/lang/Object")] 6

/-- java/lang/constant/Constable -/
def k10 : Class := { plain "java/lang/constant/Constable" (some 0) with
  accessFlags := 1537
  interfaces := #[]
  cf := some (fileOf pool10 1 #[] #[] 1537 3 #[] #[])
  fields := #[]
  methods := #[]
  instanceTypes := #[]
  staticTypes := #[]
  resolved := Array.replicate 11 none
  statics := none }

def pool11 : Array CpInfo := pool [(1, .class_ 2), (0, u "java/lang/constant/ConstantDesc"), (0, .class_ 4), (0, u "java/lang/Object")] 32

/-- java/lang/constant/ConstantDesc -/
def k11 : Class := { plain "java/lang/constant/ConstantDesc" (some 0) with
  accessFlags := 1537
  interfaces := #[]
  cf := some (fileOf pool11 1 #[] #[] 1537 3 #[] #[])
  fields := #[]
  methods := #[]
  instanceTypes := #[]
  staticTypes := #[]
  resolved := Array.replicate 37 none
  statics := none }

def pool12 : Array CpInfo := pool [(1, .class_ 2), (0, u "java/lang/Long"), (232, .class_ 237), (1, u "java/lang/Long$LongCache"), (33, .class_ 272), (0, u "java/lang/Number"), (2, u "value"), (0, u "J"), (29, .long 18446744073709551615), (26, u "(JJ)J"), (27, u "TYPE"), (0, u "Ljava/lang/Class;"), (0, .class_ 364), (0, u "java/lang/Comparable"), (0, .class_ 366), (0, u "java/lang/constant/Constable"), (0, .class_ 368), (0, u "java/lang/constant/ConstantDesc"), (0, u "MIN_VALUE"), (1, u "MAX_VALUE"), (4, u "SIZE"), (0, u "I"), (1, u "BYTES"), (1, u "serialVersionUID"), (91, u "remainderUnsigned")] 50

def k12c0 : Code := { maxStack := 8, maxLocals := 8, code := jdk_35_method_45_code, exceptionTable := #[], attributes := #[] }
def k12m0 : Method := { name := "remainderUnsigned", desc := "(JJ)J", sig := { parameters := [.long, .long], returnType := some .long }, accessFlags := 9, code := some k12c0 }
/-- java/lang/Long -/
def k12 : Class := { plain "java/lang/Long" (some 8) with
  accessFlags := 49
  interfaces := #[9, 10, 11]
  cf := some (fileOf pool12 1 #[.nestMembers #[235]] #[{ accessFlags := 9, nameIndex := 473, descriptorIndex := 333, attributes := #[] }] 49 271 #[363, 365, 367] #[{ accessFlags := 25, nameIndex := 369, descriptorIndex := 276, attributes := #[] }, { accessFlags := 25, nameIndex := 371, descriptorIndex := 276, attributes := #[] }, { accessFlags := 25, nameIndex := 361, descriptorIndex := 362, attributes := #[] }, { accessFlags := 18, nameIndex := 275, descriptorIndex := 276, attributes := #[] }, { accessFlags := 25, nameIndex := 376, descriptorIndex := 377, attributes := #[] }, { accessFlags := 25, nameIndex := 379, descriptorIndex := 377, attributes := #[] }, { accessFlags := 26, nameIndex := 381, descriptorIndex := 276, attributes := #[] }])
  fields := #[{ name := "MIN_VALUE", type := .long, accessFlags := 25, slot := 0, constantValue := 0 }, { name := "MAX_VALUE", type := .long, accessFlags := 25, slot := 1, constantValue := 0 }, { name := "TYPE", type := (.object "java/lang/Class"), accessFlags := 25, slot := 2, constantValue := 0 }, { name := "value", type := .long, accessFlags := 18, slot := 0, constantValue := 0 }, { name := "SIZE", type := .int, accessFlags := 25, slot := 3, constantValue := 0 }, { name := "BYTES", type := .int, accessFlags := 25, slot := 4, constantValue := 0 }, { name := "serialVersionUID", type := .long, accessFlags := 26, slot := 5, constantValue := 0 }]
  methods := #[k12m0]
  instanceTypes := #[.long]
  staticTypes := #[.long, .long, (.object "java/lang/Class"), .int, .int, .long]
  resolved := Array.replicate 524 none
  statics := none }

def pool13 : Array CpInfo := pool [(1, u "java/lang/Cloneable"), (0, .class_ 1), (0, u "java/lang/Object"), (0, .class_ 3)] 3

/-- java/lang/Cloneable -/
def k13 : Class := { plain "java/lang/Cloneable" (some 0) with
  accessFlags := 1537
  interfaces := #[]
  cf := some (fileOf pool13 2 #[] #[] 1537 4 #[] #[])
  fields := #[]
  methods := #[]
  instanceTypes := #[]
  staticTypes := #[]
  resolved := Array.replicate 8 none
  statics := none }

/-- the primitive byte -/
def k14 : Class := { plain "byte" none with kind := .primitive 'B', accessFlags := 0x411 }
/-- [B -/
def k15 : Class := { plain "[B" (some 0) with kind := .array 14 .byte, interfaces := #[13, 7], accessFlags := 1041 }

/-- the primitive int -/
def k16 : Class := { plain "int" none with kind := .primitive 'I', accessFlags := 0x411 }
/-- [I -/
def k17 : Class := { plain "[I" (some 0) with kind := .array 16 .int, interfaces := #[13, 7], accessFlags := 1041 }

def heap : Heap := #[]
def classes : Array Class := #[k0, k1, k2, k3, k4, k5, k6, k7, k8, k9, k10, k11, k12, k13, k14, k15, k16, k17]
def interned : List (Array UInt16 × Addr) := []
def slotsUsed : Nat := 0
def theMethod : MethodId := ⟨1, 1⟩
def args0 : Array Value := #[.long 5, .long 5, .long 5, .int 5]
def aboutOver (below : List Frame) : State where
  vm := { classes := classes, interned := interned.toArray }
  heap := heap
  slotsUsed := slotsUsed
  threads := #[{ frames := .invoking theMethod args0 :: below }]
def below0 : List Frame := [.native { method := ⟨0, 0⟩, args := #[] }]
def about1 : State := aboutOver below0
def p0 : Program := .bare "" "" ""
def e0 : Env := launch0.env 0 0 0
theorem w_frames : about1.frames = Frame.invoking theMethod args0 :: below0 := rfl
set_option maxRecDepth 65536 in
theorem w_args : argsFit about1.vm theMethod args0 = true := by decide +kernel
set_option maxRecDepth 65536 in
theorem w_heap : heapFits about1 = true := by decide +kernel
set_option maxRecDepth 65536 in
theorem w_runnable : about1.curStatus? = some .runnable := by decide +kernel
set_option maxRecDepth 65536 in
theorem w_alone : about1.alone = true := by decide +kernel
set_option maxRecDepth 65536 in
theorem w_named : about1.methodNamed? x = some theMethod := by decide +kernel
set_option maxRecDepth 65536 in
theorem w_hears : about1.hears theMethod below0 = true := by decide +kernel
set_option maxRecDepth 65536 in
theorem w_ripe : about1.ripe theMethod args0 below0 = true := by decide +kernel
theorem w_running : about1.status = .running := rfl
set_option maxRecDepth 65536 in
theorem w_room : about1.hasRoom e0.platform room_1 = true :=
  launch0.hasRoom_least _ room_1 (by decide +kernel) (by decide +kernel) (by decide +kernel) (by decide +kernel) (by decide +kernel) (by decide +kernel)
theorem allAtoms_all (ts : List Jvm.Cond) (a : Array Jvm.Value) (st : Jvm.State) : (allAtoms ts).before a st = ts.all (fun c => c.before a st) := by
  induction ts with
  | nil => rfl
  | cons c t ih =>
    show (Jvm.Cond.and c (allAtoms t)).before a st = _
    rw [Jvm.Cond.before_and, ih, List.all_cons]
def words1 : List Jvm.Cond := Jvm.Cond.code x code maxLocals ret :: tables_1
/-- a 'code' word, met by the world's own term for the bytes: nothing is compared byte by byte -/
theorem code_word {y : MethodName} {bytes : ByteArray} {mx : Nat} {rt : Option FieldType} {a : Array Value} {s : State} {m : MethodId} {meth : Method} {c : Code} (h1 : s.methodNamed? y = some m) (h2 : s.vm.method? m = some meth) (h3 : meth.code = some c) (h4 : c.code = bytes)
    (h5 : (c.maxLocals == mx && c.exceptionTable.isEmpty && decide (c.maxStack ≤ mostOperands) && decide (meth.sig.returnType = rt) && !meth.locks && decide (parseMethodDescriptor y.desc = some meth.sig)) = true) : (Jvm.Cond.code y bytes mx rt).before a s = true := by
  simp only [Bool.and_eq_true, beq_iff_eq, Bool.not_eq_true', decide_eq_true_eq] at h5
  obtain ⟨⟨⟨⟨⟨g1, g2⟩, g3⟩, g4⟩, g5⟩, g6⟩ := h5
  simp [Cond.before, Cond.holds, Cond.value, h1, h2, h3, h4, g1, g2, g3, g4, g5, g6]
def isCode : Jvm.Cond → Bool
  | .code _ _ _ _ => true
  | _ => false
theorem all_split {L : List Jvm.Cond} {P : Jvm.Cond → Bool} (h1 : L.all (fun c => isCode c || P c) = true) (h2 : ∀ c ∈ L.filter isCode, P c = true) : L.all P = true := by
  refine List.all_eq_true.mpr fun c hc => ?_
  have h := List.all_eq_true.mp h1 c hc
  rcases Bool.eq_false_or_eq_true (isCode c) with hi | hi
  · exact h2 c (List.mem_filter.mpr ⟨hc, hi⟩)
  · simpa [hi] using h
set_option maxRecDepth 65536 in
theorem w_c0 : (Jvm.Cond.code x code maxLocals ret).before args0 about1 = true := code_word (m := ⟨1, 1⟩) (meth := k1m1) (c := k1c1) (by decide +kernel) rfl rfl rfl (by decide +kernel)
set_option maxRecDepth 65536 in
theorem w_c1 : (Jvm.Cond.code ({ cls := "java/lang/Math", name := "max", desc := "(JJ)J" } : Jvm.MethodName) jdk_29_method_66_code (4 : Nat) (Option.some Jvm.ClassFile.FieldType.long)).before args0 about1 = true := code_word (m := ⟨2, 2⟩) (meth := k2m2) (c := k2c2) (by decide +kernel) rfl rfl rfl (by decide +kernel)
set_option maxRecDepth 65536 in
theorem w_c2 : (Jvm.Cond.code ({ cls := "com/example/upper_falls/upperfalls/KeyHash", name := "<init>", desc := "(JJ)V" } : Jvm.MethodName) prog_14_method_1_code (5 : Nat) (Option.none : Option Jvm.ClassFile.FieldType)).before args0 about1 = true := code_word (m := ⟨4, 0⟩) (meth := k4m0) (c := k4c0) (by decide +kernel) rfl rfl rfl (by decide +kernel)
set_option maxRecDepth 65536 in
theorem w_c3 : (Jvm.Cond.code ({ cls := "java/lang/Record", name := "<init>", desc := "()V" } : Jvm.MethodName) jdk_30_method_1_code (1 : Nat) (Option.none : Option Jvm.ClassFile.FieldType)).before args0 about1 = true := code_word (m := ⟨3, 0⟩) (meth := k3m0) (c := k3c0) (by decide +kernel) rfl rfl rfl (by decide +kernel)
set_option maxRecDepth 65536 in
theorem w_c4 : (Jvm.Cond.code ({ cls := "java/lang/Object", name := "<init>", desc := "()V" } : Jvm.MethodName) object_method_1_code (1 : Nat) (Option.none : Option Jvm.ClassFile.FieldType)).before args0 about1 = true := code_word (m := ⟨0, 0⟩) (meth := k0m0) (c := k0c0) (by decide +kernel) rfl rfl rfl (by decide +kernel)
set_option maxRecDepth 65536 in
theorem w_c5 : (Jvm.Cond.code ({ cls := "com/example/upper_falls/upperfalls/FilterSize", name := "<init>", desc := "(JI)V" } : Jvm.MethodName) prog_12_method_1_code (4 : Nat) (Option.none : Option Jvm.ClassFile.FieldType)).before args0 about1 = true := code_word (m := ⟨5, 0⟩) (meth := k5m0) (c := k5c0) (by decide +kernel) rfl rfl rfl (by decide +kernel)
set_option maxRecDepth 65536 in
theorem w_c6 : (Jvm.Cond.code ({ cls := "com/example/upper_falls/upperfalls/KeyPositions", name := "<init>", desc := "(Lcom/example/upper_falls/upperfalls/KeyHash;Lcom/example/upper_falls/upperfalls/FilterSize;)V" } : Jvm.MethodName) prog_15_method_1_code (3 : Nat) (Option.none : Option Jvm.ClassFile.FieldType)).before args0 about1 = true := code_word (m := ⟨6, 0⟩) (meth := k6m0) (c := k6c0) (by decide +kernel) rfl rfl rfl (by decide +kernel)
set_option maxRecDepth 65536 in
theorem w_c7 : (Jvm.Cond.code ({ cls := "com/example/upper_falls/upperfalls/FilterSize", name := "bits", desc := "()J" } : Jvm.MethodName) prog_12_method_6_code (1 : Nat) (Option.some Jvm.ClassFile.FieldType.long)).before args0 about1 = true := code_word (m := ⟨5, 1⟩) (meth := k5m1) (c := k5c1) (by decide +kernel) rfl rfl rfl (by decide +kernel)
set_option maxRecDepth 65536 in
theorem w_c8 : (Jvm.Cond.code ({ cls := "com/example/upper_falls/upperfalls/FilterSize", name := "hashes", desc := "()I" } : Jvm.MethodName) prog_12_method_7_code (1 : Nat) (Option.some Jvm.ClassFile.FieldType.int)).before args0 about1 = true := code_word (m := ⟨5, 2⟩) (meth := k5m2) (c := k5c2) (by decide +kernel) rfl rfl rfl (by decide +kernel)
set_option maxRecDepth 65536 in
theorem w_c9 : (Jvm.Cond.code ({ cls := "com/example/upper_falls/upperfalls/KeyHash", name := "h1", desc := "()J" } : Jvm.MethodName) prog_14_method_10_code (1 : Nat) (Option.some Jvm.ClassFile.FieldType.long)).before args0 about1 = true := code_word (m := ⟨4, 1⟩) (meth := k4m1) (c := k4c1) (by decide +kernel) rfl rfl rfl (by decide +kernel)
set_option maxRecDepth 65536 in
theorem w_c10 : (Jvm.Cond.code ({ cls := "java/lang/Long", name := "remainderUnsigned", desc := "(JJ)J" } : Jvm.MethodName) jdk_35_method_45_code (8 : Nat) (Option.some Jvm.ClassFile.FieldType.long)).before args0 about1 = true := code_word (m := ⟨12, 0⟩) (meth := k12m0) (c := k12c0) (by decide +kernel) rfl rfl rfl (by decide +kernel)
set_option maxRecDepth 65536 in
theorem w_c11 : (Jvm.Cond.code ({ cls := "com/example/upper_falls/upperfalls/KeyHash", name := "h2", desc := "()J" } : Jvm.MethodName) prog_14_method_11_code (1 : Nat) (Option.some Jvm.ClassFile.FieldType.long)).before args0 about1 = true := code_word (m := ⟨4, 2⟩) (meth := k4m2) (c := k4c2) (by decide +kernel) rfl rfl rfl (by decide +kernel)
set_option maxRecDepth 65536 in
theorem w_c12 : (Jvm.Cond.code ({ cls := "com/example/upper_falls/upperfalls/KeyPositions", name := "hasNext", desc := "()Z" } : Jvm.MethodName) prog_15_method_2_code (1 : Nat) (Option.some Jvm.ClassFile.FieldType.boolean)).before args0 about1 = true := code_word (m := ⟨6, 1⟩) (meth := k6m1) (c := k6c1) (by decide +kernel) rfl rfl rfl (by decide +kernel)
set_option maxRecDepth 65536 in
theorem w_c13 : (Jvm.Cond.code ({ cls := "com/example/upper_falls/upperfalls/KeyPositions", name := "next", desc := "()J" } : Jvm.MethodName) prog_15_method_3_code (3 : Nat) (Option.some Jvm.ClassFile.FieldType.long)).before args0 about1 = true := code_word (m := ⟨6, 2⟩) (meth := k6m2) (c := k6c2) (by decide +kernel) rfl rfl rfl (by decide +kernel)
set_option maxRecDepth 65536 in
theorem w_c14 : (Jvm.Cond.code ({ cls := "java/lang/Math", name := "max", desc := "(II)I" } : Jvm.MethodName) jdk_29_method_65_code (2 : Nat) (Option.some Jvm.ClassFile.FieldType.int)).before args0 about1 = true := code_word (m := ⟨2, 1⟩) (meth := k2m1) (c := k2c1) (by decide +kernel) rfl rfl rfl (by decide +kernel)
def codes1 : List Jvm.Cond := [Jvm.Cond.code x code maxLocals ret, Jvm.Cond.code ({ cls := "java/lang/Math", name := "max", desc := "(JJ)J" } : Jvm.MethodName) jdk_29_method_66_code (4 : Nat) (Option.some Jvm.ClassFile.FieldType.long), Jvm.Cond.code ({ cls := "com/example/upper_falls/upperfalls/KeyHash", name := "<init>", desc := "(JJ)V" } : Jvm.MethodName) prog_14_method_1_code (5 : Nat) (Option.none : Option Jvm.ClassFile.FieldType), Jvm.Cond.code ({ cls := "java/lang/Record", name := "<init>", desc := "()V" } : Jvm.MethodName) jdk_30_method_1_code (1 : Nat) (Option.none : Option Jvm.ClassFile.FieldType), Jvm.Cond.code ({ cls := "java/lang/Object", name := "<init>", desc := "()V" } : Jvm.MethodName) object_method_1_code (1 : Nat) (Option.none : Option Jvm.ClassFile.FieldType), Jvm.Cond.code ({ cls := "com/example/upper_falls/upperfalls/FilterSize", name := "<init>", desc := "(JI)V" } : Jvm.MethodName) prog_12_method_1_code (4 : Nat) (Option.none : Option Jvm.ClassFile.FieldType), Jvm.Cond.code ({ cls := "com/example/upper_falls/upperfalls/KeyPositions", name := "<init>", desc := "(Lcom/example/upper_falls/upperfalls/KeyHash;Lcom/example/upper_falls/upperfalls/FilterSize;)V" } : Jvm.MethodName) prog_15_method_1_code (3 : Nat) (Option.none : Option Jvm.ClassFile.FieldType), Jvm.Cond.code ({ cls := "com/example/upper_falls/upperfalls/FilterSize", name := "bits", desc := "()J" } : Jvm.MethodName) prog_12_method_6_code (1 : Nat) (Option.some Jvm.ClassFile.FieldType.long), Jvm.Cond.code ({ cls := "com/example/upper_falls/upperfalls/FilterSize", name := "hashes", desc := "()I" } : Jvm.MethodName) prog_12_method_7_code (1 : Nat) (Option.some Jvm.ClassFile.FieldType.int), Jvm.Cond.code ({ cls := "com/example/upper_falls/upperfalls/KeyHash", name := "h1", desc := "()J" } : Jvm.MethodName) prog_14_method_10_code (1 : Nat) (Option.some Jvm.ClassFile.FieldType.long), Jvm.Cond.code ({ cls := "java/lang/Long", name := "remainderUnsigned", desc := "(JJ)J" } : Jvm.MethodName) jdk_35_method_45_code (8 : Nat) (Option.some Jvm.ClassFile.FieldType.long), Jvm.Cond.code ({ cls := "com/example/upper_falls/upperfalls/KeyHash", name := "h2", desc := "()J" } : Jvm.MethodName) prog_14_method_11_code (1 : Nat) (Option.some Jvm.ClassFile.FieldType.long), Jvm.Cond.code ({ cls := "com/example/upper_falls/upperfalls/KeyPositions", name := "hasNext", desc := "()Z" } : Jvm.MethodName) prog_15_method_2_code (1 : Nat) (Option.some Jvm.ClassFile.FieldType.boolean), Jvm.Cond.code ({ cls := "com/example/upper_falls/upperfalls/KeyPositions", name := "next", desc := "()J" } : Jvm.MethodName) prog_15_method_3_code (3 : Nat) (Option.some Jvm.ClassFile.FieldType.long), Jvm.Cond.code ({ cls := "java/lang/Math", name := "max", desc := "(II)I" } : Jvm.MethodName) jdk_29_method_65_code (2 : Nat) (Option.some Jvm.ClassFile.FieldType.int)]
set_option maxRecDepth 65536 in
theorem codes_eq : words1.filter isCode = codes1 := rfl
theorem w_codes : ∀ c ∈ words1.filter isCode, c.before args0 about1 = true := by
  rw [codes_eq]
  intro c hc
  simp only [codes1, List.mem_cons, List.not_mem_nil, or_false] at hc
  rcases hc with rfl | rfl | rfl | rfl | rfl | rfl | rfl | rfl | rfl | rfl | rfl | rfl | rfl | rfl | rfl
  · exact w_c0
  · exact w_c1
  · exact w_c2
  · exact w_c3
  · exact w_c4
  · exact w_c5
  · exact w_c6
  · exact w_c7
  · exact w_c8
  · exact w_c9
  · exact w_c10
  · exact w_c11
  · exact w_c12
  · exact w_c13
  · exact w_c14
set_option maxRecDepth 65536 in
theorem w_t1 : (words1.take 24).all (fun c => isCode c || c.before args0 about1) = true := by decide +kernel
set_option maxRecDepth 65536 in
theorem w_t2 : ((words1.drop 24).take 24).all (fun c => isCode c || c.before args0 about1) = true := by decide +kernel
set_option maxRecDepth 65536 in
theorem w_t3 : (((words1.drop 24).drop 24).take 24).all (fun c => isCode c || c.before args0 about1) = true := by decide +kernel
set_option maxRecDepth 65536 in
theorem w_t4 : (((words1.drop 24).drop 24).drop 24).all (fun c => isCode c || c.before args0 about1) = true := by decide +kernel
theorem w_tables : (allAtoms (Jvm.Cond.code x code maxLocals ret :: tables_1)).before args0 about1 = true := by
  rw [allAtoms_all]
  show words1.all (fun c => c.before args0 about1) = true
  refine all_split ?_ w_codes
  rw [← List.take_append_drop 24 words1, List.all_append, w_t1, ← List.take_append_drop 24 (words1.drop 24), List.all_append, w_t2, ← List.take_append_drop 24 ((words1.drop 24).drop 24), List.all_append, w_t3, w_t4]
  rfl
set_option maxRecDepth 65536 in
theorem w_case : (Jvm.Cond.and given_1 narrow_1).before args0 about1 = true := by decide +kernel
theorem w_applies : (headSpec (Jvm.Cond.code x code maxLocals ret :: tables_1) room_1).applies x e0.platform about1 = true :=
  (Spec.applies_iff w_frames).mpr ⟨w_running, w_runnable, w_alone, w_named, w_hears, w_ripe, w_room, w_tables⟩
theorem atStart : AtStart classFile x code maxLocals ret World_1 tables_1 room_1 Calls_1 rest_1 Pre_1 launch0 p0 e0 about1 theMethod args0 below0 :=
  ⟨lists_1, trivial, launch0.admits_env _ _ _, launch0.least_env, fairChoices_fair.cas, fairChoices_fair.clock, w_frames, w_args, w_heap, w_applies, trivial, trivial, w_case⟩
end start1
theorem witness_1 : WitnessClaimed_1 := ⟨start1.p0, start1.e0, start1.about1, start1.theMethod, start1.args0, start1.below0, start1.atStart⟩
end Jvm.Pilot.@@N@@
