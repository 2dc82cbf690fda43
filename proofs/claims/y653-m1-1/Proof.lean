import JvmDerived
import JvmDerived.Pilot.@@N@@Statement
import JvmDerived.Pilot.@@N@@Code
set_option linter.unusedVariables false
set_option linter.unusedSimpArgs false
namespace Jvm.Pilot.@@N@@
open Jvm Jvm.ClassFile Sem Op Lib Jvm.Free Jvm.Stand Jvm.LawKit Jvm.RoadKit Bundle Jvm.Pilot.@@N@@.Jvm.D
section OwnKit
variable {p : Program} {l : Launch} {e : Env} {R : Room} {s : State} {m : MethodId} {args : Array Value} {below : List Frame} {meth : Method} {c : Code} {T : State} {locs : List Loc} {cells slots : Nat}
/-- from the state A the body runs to its end and leaves what Q says -/
def own_Go (p : Program) (e : Env) (below : List Frame) (s : State) (Q : Option Value → Heap → List Loc → Prop) (kc ks : Nat) (A : State) : Prop :=
  ∃ s₂ o, Steps p.tables e below A s₂ ∧ s₂.status = .running ∧ Ended s₂ below o ∧ ∃ v L, o = .returned v ∧ Q v s₂.heap L ∧ FrameEnd s o s₂ L kc ks
theorem own_go {Q : Option Value → Heap → List Loc → Prop} {kc ks : Nat} {A B : State} (h : ∀ t, Steps p.tables e below B t → Steps p.tables e below A t) (k : own_Go p e below s Q kc ks B) : own_Go p e below s Q kc ks A := by
  obtain ⟨s₂, o, h1, h2⟩ := k
  exact ⟨s₂, o, h _ h1, h2⟩
/-- from the state A the body runs to the frame g', the heap as it was -/
def own_Arm (p : Program) (l : Launch) (e : Env) (R : Room) (s : State) (m : MethodId) (args : Array Value) (below : List Frame) (meth : Method) (c : Code) (cells slots n0 : Nat) (h : Heap) (g' : JFrame) (A : State) : Prop :=
  ∃ (T' : State) (locs' : List Loc), Stand p l e R s m args below meth c T' locs' cells slots ∧ Fr n0 locs' ∧ T'.heap = h ∧ ∀ t, Steps p.tables e below (T'.setTop g') t → Steps p.tables e below A t
theorem own_arm {n0 : Nat} {h : Heap} {g' : JFrame} {A B : State} (k1 : ∀ t, Steps p.tables e below B t → Steps p.tables e below A t) (k : own_Arm p l e R s m args below meth c cells slots n0 h g' B) : own_Arm p l e R s m args below meth c cells slots n0 h g' A := by
  obtain ⟨T', locs', h1, h2, h3, h4⟩ := k
  exact ⟨T', locs', h1, h2, h3, fun t kt => k1 t (h4 t kt)⟩
theorem own_armEnd {n0 : Nat} {h : Heap} {g g' : JFrame} (X : Stand p l e R s m args below meth c T locs cells slots) (N : Fr n0 locs) (eT : T.heap = h) (q : g' = g) : own_Arm p l e R s m args below meth c cells slots n0 h g' (T.setTop g) :=
  ⟨T, locs, X, N, eT, fun t kt => q ▸ kt⟩
theorem own_mrg {n0 : Nat} {h : Heap} {g g' : JFrame} (X : Stand p l e R s m args below meth c T locs cells slots) (k : own_Arm p l e R s m args below meth c cells slots n0 h g' (T.setTop g)) :
    ∃ (T' : State) (locs' : List Loc), Stand p l e R s m args below meth c T' locs' cells slots ∧ Fr n0 locs' ∧ T'.heap = h ∧ ∀ t, Steps p.tables e below (T'.setTop g') t → Steps p.tables e below (T.setTop g) t := k
theorem own_leave {Q : Option Value → Heap → List Loc → Prop} {kc ks : Nat} {A : State} {v : Option Value} (X : Stand p l e R s m args below meth c T locs cells slots) (hv : meth.sig.returnType = none → v = none) (hlk : meth.locks = false)
    (hc : cells ≤ kc) (hs : slots ≤ ks) (hQ : Q v T.heap locs) (k : ∀ fs, (∀ (f : JFrame) (acts : List Action), f.method = m → f.locked = none → f.entered = [] → (doReturn e (T.setTop f) acts v).1 = T.setFrames fs) → Steps p.tables e below A (T.setFrames fs)) : own_Go p e below s Q kc ks A := by
  obtain ⟨fs, hr, hrun, hended, hW, hsame⟩ := X.leave (v := v) hv hlk
  exact ⟨_, _, k fs hr, hrun, hended, _, _, rfl, hQ, ⟨_, rfl⟩, hW, hsame.mono hc hs⟩
theorem own_retI {Q : Option Value → Heap → List Loc → Prop} {kc ks pc : Nat} {Ls : Array Slot} {z : Int32} {rest : List Value} (X : Stand p l e R s m args below meth c T locs cells slots) (hx : p.tables.exec = Jvm.exec) (hret : meth.sig.returnType = some .int) (hlk : meth.locks = false)
    (hd : decode c.code pc = .ok (.ireturn, 1)) (hc : cells ≤ kc) (hs : slots ≤ ks) (hQ : Q (some (.int z)) T.heap locs) : own_Go p e below s Q kc ks (T.setTop (mkF m pc Ls (.int z :: rest))) := by
  refine own_leave X (fun h => by rw [hret] at h; cases h) hlk hc hs hQ fun fs hl => ?_
  have hm' : T.vm.method? m = some meth := X.method'
  have hn : narrow .int (.int z) = .int z := rfl
  show Steps p.tables e below (T.setTop { method := m, pc := pc, locals := Ls, stack := _ :: rest, locked := none }) _
  jvm_step X.here [X.here.top, hx, hd, hm', hret, hn]
  first | (intro acts; rw [hl _ acts rfl rfl rfl]) | rw [hl _ _ rfl rfl rfl]
  exact Steps.refl _
theorem own_retN {Q : Option Value → Heap → List Loc → Prop} {kc ks pc : Nat} {Ls : Array Slot} {z : Int32} {rest : List Value} {t : FieldType} (X : Stand p l e R s m args below meth c T locs cells slots) (hx : p.tables.exec = Jvm.exec) (hret : meth.sig.returnType = some t) (ht : t = .boolean ∨ t = .byte ∨ t = .char ∨ t = .short) (hlk : meth.locks = false)
    (hd : decode c.code pc = .ok (.ireturn, 1)) (hc : cells ≤ kc) (hs : slots ≤ ks) (hQ : Q (some (.int (nar t z))) T.heap locs) : own_Go p e below s Q kc ks (T.setTop (mkF m pc Ls (.int z :: rest))) :=
  own_leave X (fun h => by rw [hret] at h; cases h) hlk hc hs hQ fun fs hl => retN X hx (t := t) hret ht hd hl
theorem own_nar01 {z : Int32} (h : z = 0 ∨ z = 1) : nar .boolean z = z := by rcases h with rfl | rfl <;> rfl
theorem own_retZ {Q : Option Value → Heap → List Loc → Prop} {kc ks pc : Nat} {Ls : Array Slot} {z : Int32} {rest : List Value} (X : Stand p l e R s m args below meth c T locs cells slots) (hx : p.tables.exec = Jvm.exec) (hret : meth.sig.returnType = some .boolean) (hlk : meth.locks = false)
    (hd : decode c.code pc = .ok (.ireturn, 1)) (hc : cells ≤ kc) (hs : slots ≤ ks) (hz : z = 0 ∨ z = 1) (hQ : Q (some (.int z)) T.heap locs) : own_Go p e below s Q kc ks (T.setTop (mkF m pc Ls (.int z :: rest))) :=
  own_retN X hx hret (Or.inl rfl) hlk hd hc hs (by rw [own_nar01 hz]; exact hQ)
theorem own_retJ {Q : Option Value → Heap → List Loc → Prop} {kc ks pc : Nat} {Ls : Array Slot} {z : Int64} (X : Stand p l e R s m args below meth c T locs cells slots) (hx : p.tables.exec = Jvm.exec) (hret : meth.sig.returnType = some .long) (hlk : meth.locks = false)
    (hd : decode c.code pc = .ok (.lreturn, 1)) (hc : cells ≤ kc) (hs : slots ≤ ks) (hQ : Q (some (.long z)) T.heap locs) : own_Go p e below s Q kc ks (T.setTop (mkF m pc Ls [.long z])) :=
  own_leave X (fun h => by rw [hret] at h; cases h) hlk hc hs hQ fun fs hl => X.lreturnOut hx hret hd hl
theorem own_retA {Q : Option Value → Heap → List Loc → Prop} {kc ks pc : Nat} {Ls : Array Slot} {w : Value} {t : FieldType} {rest : List Value} (X : Stand p l e R s m args below meth c T locs cells slots) (hx : p.tables.exec = Jvm.exec) (hret : meth.sig.returnType = some t) (ht : t.isReference = true) (hw : w.isRef = true) (hlk : meth.locks = false)
    (hd : decode c.code pc = .ok (.areturn, 1)) (hc : cells ≤ kc) (hs : slots ≤ ks) (hQ : Q (some w) T.heap locs) : own_Go p e below s Q kc ks (T.setTop (mkF m pc Ls (w :: rest))) := by
  refine own_leave X (fun h => by rw [hret] at h; cases h) hlk hc hs hQ fun fs hl => ?_
  have hm' : T.vm.method? m = some meth := X.method'
  show Steps p.tables e below (T.setTop { method := m, pc := pc, locals := Ls, stack := _ :: rest, locked := none }) _
  rcases ref_cases hw with rfl | ⟨a, rfl⟩
  all_goals
    jvm_step X.here [X.here.top, hx, hd, hm', hret, Value.isRef, ht]
    first | (intro acts; rw [hl _ acts rfl rfl rfl]) | rw [hl _ _ rfl rfl rfl]
    exact Steps.refl _
theorem own_retV {Q : Option Value → Heap → List Loc → Prop} {kc ks pc : Nat} {Ls : Array Slot} (X : Stand p l e R s m args below meth c T locs cells slots) (hx : p.tables.exec = Jvm.exec) (hret : meth.sig.returnType = none) (hlk : meth.locks = false)
    (hd : decode c.code pc = .ok (.return_, 1)) (hc : cells ≤ kc) (hs : slots ≤ ks) (hQ : Q none T.heap locs) : own_Go p e below s Q kc ks (T.setTop (mkF m pc Ls [])) :=
  own_leave X (fun _ => rfl) hlk hc hs hQ fun fs hl => X.returnOut hx hret hd hl
theorem own_getFR {Z : State} {a0 : Array Value} {h : Heap} (X : Stand p l e R s m args below meth c T locs cells slots) (hx : p.tables.exec = Jvm.exec) (hZ : Z.Warmed39 s.vm) {own O n d : String} {index : Nat} (hown : s.vm.findClass own = some m.cls) (w : (Jvm.Cond.fieldRef own index O n d).before a0 Z = true)
    (eT : T.heap = h) {a : Addr} {v : Value} (F : Fld Z h a O n d v) {g : JFrame} (hg : g.method = m) {rest : List Value} (hs : g.stack = .ref a :: rest) (hd : decode c.code g.pc = .ok (.getfield index, 3)) (target : State) (k : Steps p.tables e below (T.setTop { g with pc := g.pc + 3, stack := v :: rest }) target) : Steps p.tables e below (T.setTop g) target := by
  obtain ⟨cell, cf, kc, i, f, h1, h2, h3, h4, -, -, h7⟩ := F
  have hW : Z.Warmed39 T.vm := wtrans hZ X.warmed
  have w2 := Cond.fieldRef_warmed39 hW w
  obtain ⟨k', hi, -⟩ := State.fieldFound?_setVm (s := Z) hW.alike h2
  have hc : (Z.setVm T.vm).vm.findClass own = some m.cls := by show T.vm.findClass own = _; rw [X.warmed.alike.findClass]; exact hown
  obtain ⟨c1, k1, i1, f1, e1, hr⟩ := Cond.fieldRef_spec hc w2
  cases hi.symm.trans e1
  exact (X.getfieldR hx hg (cF := cf) (field := f) hr h3 hs (by rw [eT]; exact h1) h4 h7 hd (Steps.refl _)).trans k
theorem own_ite01 {c : Prop} [Decidable c] {a b : Int32} (ha : a = 0 ∨ a = 1) (hb : b = 0 ∨ b = 1) : (if c then a else b) = 0 ∨ (if c then a else b) = 1 := by split <;> assumption
end OwnKit
theorem own_lc_eq {a b : Int64} (h : a = b) : lcmpW a b = 0 := by subst h; simp [lcmpW]
theorem own_lc_neq {a b : Int64} (h : ¬ (a = b)) : ¬ (lcmpW a b = 0) := by unfold lcmpW; split <;> first | decide | (rw [if_neg h]; decide)
theorem own_lc_lt {a b : Int64} (h : a < b) : lcmpW a b < 0 := by
  have h1 : ¬ (a > b) := fun q => Int64.lt_irrefl (Int64.lt_trans h q)
  have h2 : ¬ (a = b) := fun q => by subst q; exact Int64.lt_irrefl h
  rw [lcmpW, if_neg h1, if_neg h2]; decide
theorem own_lc_nlt {a b : Int64} (h : ¬ (a < b)) : ¬ (lcmpW a b < 0) := by
  unfold lcmpW
  split
  · decide
  · rename_i h1
    split
    · decide
    · rename_i h2; exact absurd (Int64.le_antisymm (Int64.not_lt.mp h1) (Int64.not_lt.mp h)) h2
theorem own_lc_gt {a b : Int64} (h : b < a) : (0 : Int32) < lcmpW a b := by rw [lcmpW, if_pos h]; decide
theorem own_lc_ngt {a b : Int64} (h : ¬ (b < a)) : ¬ ((0 : Int32) < lcmpW a b) := by
  rw [lcmpW, if_neg h]; split <;> decide
theorem own_rn {w : Value} {C : String} (h : w.isRef = true) : narrow (.object C) w = w := by rcases ref_cases h with rfl | ⟨a, rfl⟩ <;> rfl
theorem own_rf {w : Value} {C : String} (h : w.isRef = true) : fits (.object C) w = true := by rcases ref_cases h with rfl | ⟨a, rfl⟩ <;> rfl
theorem own_plainE {Z : State} {h : Heap} {a : Addr} {C : String} (E : Exa Z h a C) : ∀ cell : Cell, h[a]? = some cell → cell.vm.isStatics = false := fun cell hc => by
  obtain ⟨c, k, h1, -, -, h4, -⟩ := E
  cases h1.symm.trans hc; exact h4
theorem own_staKeep {Z : State} {h h' : Heap} {C n d : String} {v : Value} {ws : List Addr} (F : Sta Z h C n d v) (K : Keep h h' ws) (q : ∀ x ∈ ws, ∀ cell : Cell, h[x]? = some cell → cell.vm.isStatics = false) : Sta Z h' C n d v := by
  obtain ⟨cf, i, k, f, st, cell, h1, h2, h3, h4, h5, h6, h7⟩ := F
  exact ⟨cf, i, k, f, st, cell, h1, h2, h3, h4, K.2.1 st cell h5 (fun hm => by rw [q st hm cell h5] at h6; cases h6), h6, h7⟩
theorem d1_0 : decode prog_9_method_2_code 0 = .ok (.iload_n 0, 1) := by decide +kernel
theorem d1_1 : decode prog_9_method_2_code 1 = .ok (.bipush 48, 2) := by decide +kernel
theorem d1_3 : decode prog_9_method_2_code 3 = .ok (.if_icmp .lt 13, 3) := by decide +kernel
theorem d1_6 : decode prog_9_method_2_code 6 = .ok (.iload_n 0, 1) := by decide +kernel
theorem d1_7 : decode prog_9_method_2_code 7 = .ok (.bipush 57, 2) := by decide +kernel
theorem d1_9 : decode prog_9_method_2_code 9 = .ok (.if_icmp .gt 7, 3) := by decide +kernel
theorem d1_12 : decode prog_9_method_2_code 12 = .ok (.iconst 1, 1) := by decide +kernel
theorem d1_13 : decode prog_9_method_2_code 13 = .ok (.goto 4, 3) := by decide +kernel
theorem d1_16 : decode prog_9_method_2_code 16 = .ok (.iconst 0, 1) := by decide +kernel
theorem d1_17 : decode prog_9_method_2_code 17 = .ok (.ireturn, 1) := by decide +kernel
theorem ef_1 (m : MethodId) (p0 : Int32) : entryFrame m #[(.int p0)] 1 = mkF m 0 #[.val (.int p0)] [] := by (first | (simp [entryFrame, mkF, argsToLocals, Value.category]; done) | rfl)
def own_r1 (p0 : Int32) : Int32 := (if p0 < (48 : Int32) then (0 : Int32) else (if (57 : Int32) < p0 then (0 : Int32) else (1 : Int32)))
theorem own_r1_b (p0 : Int32) : own_r1 p0 = 0 ∨ own_r1 p0 = 1 := by unfold own_r1; exact (own_ite01 (Or.inl rfl) (own_ite01 (Or.inl rfl) (Or.inr rfl)))
theorem pn0 : plainName "com/example/millispan/millispan/TextSyntax" = true := by first | (simp [plainName, overriddenIn]; done) | decide +kernel
def Q1 (Z : State) (p0 : Int32) (h0 : Heap) (n0 : Nat) (v : Option Value) (h : Heap) (L : List Loc) : Prop := v = some (.int (own_r1 p0)) ∧ Fr n0 L ∧ h = h0
set_option maxRecDepth 65536 in
set_option maxHeartbeats 40000000 in
theorem rm1 (l : Launch) (Z : State) (a0 : Array Value) (hw : ∀ d ∈ tables_1, d.before a0 Z = true) (ws : List Jvm.Cond) (p0 : Int32) (h0 : Heap) (n0 : Nat) (Z0 : n0 ≤ h0.size) :
    MetFree l (⟨"com/example/millispan/millispan/TextSyntax", "isDigit", "(C)Z"⟩ : MethodName) (head1 (Jvm.Cond.code (⟨"com/example/millispan/millispan/TextSyntax", "isDigit", "(C)Z"⟩ : MethodName) prog_9_method_2_code 1 (some .boolean) :: ws) ({ frames := 0, cells := 0, slots := 0, locals := 0 } : Room)) (fun a U => a = #[(.int p0)] ∧ Z.Warmed39 U.vm ∧ U.heap = h0) (fun _ _ _ _ _ => True) (fun _ U o U' => ∃ v L, o = .returned v ∧ Q1 Z p0 h0 n0 v U'.heap L ∧ FrameEnd U o U' L ({ frames := 0, cells := 0, slots := 0, locals := 0 } : Room).cells ({ frames := 0, cells := 0, slots := 0, locals := 0 } : Room).slots) := by
  refine MetFree.of_bodySF (plainFor_of_name pn0) hisR ?_
  intro p e s m args below meth c s₁ Bd hml0 hP hK
  obtain ⟨rfl, hZ, hh⟩ := hP
  have hx := Bd.exec
  have hby := Bd.bytes
  have hml : c.maxLocals = 1 := hml0
  have hown : s.vm.findClass "com/example/millispan/millispan/TextSyntax" = some m.cls := findClass_of_methodNamed Bd.named
  have hnm := (name_of_methodNamed Bd.named Bd.method).1
  have X0 : Stand p l e ({ frames := 0, cells := 0, slots := 0, locals := 0 } : Room) s m #[(.int p0)] below meth c s₁ [] 0 0 := Stand.of_body Bd
  have e0 : s₁.heap = h0 := by rw [← hh, Bd.state]; rfl
  have N0 := Fr.nil n0
  have K0 : Keep h0 h0 [] := Keep.refl h0 _
  show own_Go p e below s (Q1 Z p0 h0 n0) ({ frames := 0, cells := 0, slots := 0, locals := 0 } : Room).cells ({ frames := 0, cells := 0, slots := 0, locals := 0 } : Room).slots (s₁.setTop (entryFrame m #[(.int p0)] 1))
  refine own_go (fun t k => castTop (ef_1 m p0) k) ?_
  obtain ⟨v3, hv3⟩ : ∃ z : Int32, z = (if (57 : Int32) < p0 then (0 : Int32) else (1 : Int32)) := ⟨_, rfl⟩
  obtain ⟨v4, hv4⟩ : ∃ z : Int32, z = (if p0 < (48 : Int32) then (0 : Int32) else v3) := ⟨_, rfl⟩
  obtain ⟨T106, lc106, X106, N106, e106, st106⟩ := own_mrg (n0 := n0) (h := h0) (g := (mkF m 3 #[.val (.int p0)] [(.int (48 : Int32)), (.int p0)])) (g' := (mkF m 17 #[.val (.int p0)] [(.int v4)])) X0 (by
    by_cases hc3_1 : p0 < (48 : Int32)
    · have hgo101 : ∀ t, Steps p.tables e below (s₁.setTop (mkF m 17 #[.val (.int p0)] [(.int (0 : Int32))])) t → Steps p.tables e below (s₁.setTop (mkF m 3 #[.val (.int p0)] [(.int (48 : Int32)), (.int p0)])) t := by
        intro t kt
        show Steps p.tables e below (s₁.setTop (mkF m 3 #[.val (.int p0)] [(.int (48 : Int32)), (.int p0)])) _
        refine XS.icmpYes X0.here hx rfl (pc0 := 3) (pc' := 16) rfl (hb hby d1_3) rfl (tlt hc3_1).1 (by decide) (by decide) ?_
        show Steps p.tables e below (s₁.setTop (mkF m 16 #[.val (.int p0)] [])) _
        refine XS.iconst X0.here hx rfl (hb hby d1_16) ?_
        exact kt
      refine own_arm hgo101 ?_
      exact own_armEnd X0 N0 e0 (by rw [hv4.trans (if_pos hc3_1)])
    · obtain ⟨T104, lc104, X104, N104, e104, st104⟩ := own_mrg (n0 := n0) (h := h0) (g := (mkF m 9 #[.val (.int p0)] [(.int (57 : Int32)), (.int p0)])) (g' := (mkF m 17 #[.val (.int p0)] [(.int v3)])) X0 (by
        by_cases hc9_2 : (57 : Int32) < p0
        · have hgo102 : ∀ t, Steps p.tables e below (s₁.setTop (mkF m 17 #[.val (.int p0)] [(.int (0 : Int32))])) t → Steps p.tables e below (s₁.setTop (mkF m 9 #[.val (.int p0)] [(.int (57 : Int32)), (.int p0)])) t := by
            intro t kt
            show Steps p.tables e below (s₁.setTop (mkF m 9 #[.val (.int p0)] [(.int (57 : Int32)), (.int p0)])) _
            refine XS.icmpYes X0.here hx rfl (pc0 := 9) (pc' := 16) rfl (hb hby d1_9) rfl (tlt hc9_2).2.2.1 (by decide) (by decide) ?_
            show Steps p.tables e below (s₁.setTop (mkF m 16 #[.val (.int p0)] [])) _
            refine XS.iconst X0.here hx rfl (hb hby d1_16) ?_
            exact kt
          refine own_arm hgo102 ?_
          exact own_armEnd X0 N0 e0 (by rw [hv3.trans (if_pos hc9_2)])
        · have hgo103 : ∀ t, Steps p.tables e below (s₁.setTop (mkF m 17 #[.val (.int p0)] [(.int (1 : Int32))])) t → Steps p.tables e below (s₁.setTop (mkF m 9 #[.val (.int p0)] [(.int (57 : Int32)), (.int p0)])) t := by
            intro t kt
            show Steps p.tables e below (s₁.setTop (mkF m 9 #[.val (.int p0)] [(.int (57 : Int32)), (.int p0)])) _
            refine XS.icmpNo X0.here hx rfl (hb hby d1_9) rfl (flt hc9_2).2.2.1 ?_
            show Steps p.tables e below (s₁.setTop (mkF m 12 #[.val (.int p0)] [])) _
            refine XS.iconst X0.here hx rfl (hb hby d1_12) ?_
            show Steps p.tables e below (s₁.setTop (mkF m 13 #[.val (.int p0)] [(.int (1 : Int32))])) _
            refine XS.goto X0.here hx rfl (pc0 := 13) (pc' := 17) rfl (hb hby d1_13) (by decide) (by decide) ?_
            exact kt
          refine own_arm hgo103 ?_
          exact own_armEnd X0 N0 e0 (by rw [hv3.trans (if_neg hc9_2)]))
      have hgo105 : ∀ t, Steps p.tables e below (T104.setTop (mkF m 17 #[.val (.int p0)] [(.int v3)])) t → Steps p.tables e below (s₁.setTop (mkF m 3 #[.val (.int p0)] [(.int (48 : Int32)), (.int p0)])) t := by
        intro t kt
        show Steps p.tables e below (s₁.setTop (mkF m 3 #[.val (.int p0)] [(.int (48 : Int32)), (.int p0)])) _
        refine XS.icmpNo X0.here hx rfl (hb hby d1_3) rfl (flt hc3_1).1 ?_
        show Steps p.tables e below (s₁.setTop (mkF m 6 #[.val (.int p0)] [])) _
        refine XS.iloadN X0.here hx rfl (hb hby d1_6) rfl ?_
        show Steps p.tables e below (s₁.setTop (mkF m 7 #[.val (.int p0)] [(.int p0)])) _
        refine XS.bipush X0.here hx rfl (hb hby d1_7) ?_
        show Steps p.tables e below (s₁.setTop (mkF m 9 #[.val (.int p0)] [(.int (57 : Int32)), (.int p0)])) _
        refine st104 _ ?_
        exact kt
      refine own_arm hgo105 ?_
      exact own_armEnd X104 N104 e104 (by rw [hv4.trans (if_neg hc3_1)]))
  have hgo107 : ∀ t, Steps p.tables e below (T106.setTop (mkF m 17 #[.val (.int p0)] [(.int v4)])) t → Steps p.tables e below (s₁.setTop (mkF m 0 #[.val (.int p0)] [])) t := by
    intro t kt
    show Steps p.tables e below (s₁.setTop (mkF m 0 #[.val (.int p0)] [])) _
    refine XS.iloadN X0.here hx rfl (hb hby d1_0) rfl ?_
    show Steps p.tables e below (s₁.setTop (mkF m 1 #[.val (.int p0)] [(.int p0)])) _
    refine XS.bipush X0.here hx rfl (hb hby d1_1) ?_
    show Steps p.tables e below (s₁.setTop (mkF m 3 #[.val (.int p0)] [(.int (48 : Int32)), (.int p0)])) _
    refine st106 _ ?_
    exact kt
  refine own_go hgo107 ?_
  exact own_retZ X106 hx Bd.returns Bd.notSynchronized (hb hby d1_17) (by decide) (by decide) (by rw [hv4]; exact (own_ite01 (Or.inl rfl) (by rw [hv3]; exact (own_ite01 (Or.inl rfl) (Or.inr rfl))))) (by rw [e106]; exact ⟨(by subst hv4 hv3; rw [own_r1]), N106, rfl⟩)
theorem pd1 : parseMethodDescriptor "(C)Z" = some ⟨[.char], some .boolean⟩ := by decide +kernel
theorem ef_0 (m : MethodId) (p0 : Int32) : entryFrame m #[(.int p0)] maxLocals = mkF m 0 #[.val (.int p0), .unset, .unset] [] := by (first | (simp [entryFrame, mkF, argsToLocals, Value.category, maxLocals]; done) | rfl)
set_option maxRecDepth 65536 in
theorem own_leaf0 {p0 v1 v12 v13 v14 v15 v16 v17 v18 v19 v20 v21 v23 : Int32} (hv1 : v1 = ((p0 &&& (65535 : Int32)).toUInt32.toUInt16.toUInt32.toInt32)) (hv12 : v12 = (if v1 = (57 : Int32) then (1 : Int32) else (0 : Int32))) (hv13 : v13 = (if v1 = (56 : Int32) then (1 : Int32) else v12)) (hv14 : v14 = (if v1 = (55 : Int32) then (1 : Int32) else v13)) (hv15 : v15 = (if v1 = (54 : Int32) then (1 : Int32) else v14)) (hv16 : v16 = (if v1 = (53 : Int32) then (1 : Int32) else v15)) (hv17 : v17 = (if v1 = (52 : Int32) then (1 : Int32) else v16)) (hv18 : v18 = (if v1 = (51 : Int32) then (1 : Int32) else v17)) (hv19 : v19 = (if v1 = (50 : Int32) then (1 : Int32) else v18)) (hv20 : v20 = (if v1 = (49 : Int32) then (1 : Int32) else v19)) (hv21 : v21 = (if v1 = (48 : Int32) then (1 : Int32) else v20)) (hv23 : v23 = (if (own_r1 v1) = v21 then (1 : Int32) else (0 : Int32))) : v23 = 1 := by
  rw [hv23, if_pos]
  rw [hv21, hv20, hv19, hv18, hv17, hv16, hv15, hv14, hv13, hv12]
  clear hv23 hv21 hv20 hv19 hv18 hv17 hv16 hv15 hv14 hv13 hv12 hv1
  rw [← Int32.toInt_inj]
  simp only [own_r1, apply_ite Int32.toInt, Int32.lt_iff_toInt_lt, ← Int32.toInt_inj, Int32.reduceToInt]
  omega
theorem pn2 : plainName "com/example/millispan/millispan/TextSyntaxIsDigitPinLaw" = true := by first | (simp [plainName, overriddenIn]; done) | decide +kernel
def Q0 (Z : State) (p0 : Int32) (h0 : Heap) (n0 : Nat) (v : Option Value) (h : Heap) (L : List Loc) : Prop := v = some (.int 1) ∧ Fr n0 L
set_option maxRecDepth 65536 in
set_option maxHeartbeats 40000000 in
theorem rm0 (l : Launch) (Z : State) (a0 : Array Value) (hw : ∀ d ∈ tables_1, d.before a0 Z = true) (ws : List Jvm.Cond) (p0 : Int32) (h0 : Heap) (n0 : Nat) (Z0 : n0 ≤ h0.size) :
    MetFree l x (head1 (Jvm.Cond.code x code maxLocals ret :: ws) room_1) (fun a U => a = #[(.int p0)] ∧ Z.Warmed39 U.vm ∧ U.heap = h0) (fun _ _ _ _ _ => True) (fun _ U o U' => ∃ v L, o = .returned v ∧ Q0 Z p0 h0 n0 v U'.heap L ∧ FrameEnd U o U' L room_1.cells room_1.slots) := by
  refine MetFree.of_bodySF (plainFor_of_name pn2) hisR ?_
  intro p e s m args below meth c s₁ Bd hml0 hP hK
  obtain ⟨rfl, hZ, hh⟩ := hP
  have hx := Bd.exec
  have hby := Bd.bytes
  have hml : c.maxLocals = 3 := hml0
  have hown : s.vm.findClass "com/example/millispan/millispan/TextSyntaxIsDigitPinLaw" = some m.cls := findClass_of_methodNamed Bd.named
  have hnm := (name_of_methodNamed Bd.named Bd.method).1
  have X0 : Stand p l e room_1 s m #[(.int p0)] below meth c s₁ [] 0 0 := Stand.of_body Bd
  have e0 : s₁.heap = h0 := by rw [← hh, Bd.state]; rfl
  have N0 := Fr.nil n0
  have K0 : Keep h0 h0 [] := Keep.refl h0 _
  show own_Go p e below s (Q0 Z p0 h0 n0) room_1.cells room_1.slots (s₁.setTop (entryFrame m #[(.int p0)] maxLocals))
  refine own_go (fun t k => castTop (ef_0 m p0) k) ?_
  obtain ⟨v1, hv1⟩ : ∃ z : Int32, z = ((p0 &&& (65535 : Int32)).toUInt32.toUInt16.toUInt32.toInt32) := ⟨_, rfl⟩
  obtain ⟨v12, hv12⟩ : ∃ z : Int32, z = (if v1 = (57 : Int32) then (1 : Int32) else (0 : Int32)) := ⟨_, rfl⟩
  obtain ⟨v13, hv13⟩ : ∃ z : Int32, z = (if v1 = (56 : Int32) then (1 : Int32) else v12) := ⟨_, rfl⟩
  obtain ⟨v14, hv14⟩ : ∃ z : Int32, z = (if v1 = (55 : Int32) then (1 : Int32) else v13) := ⟨_, rfl⟩
  obtain ⟨v15, hv15⟩ : ∃ z : Int32, z = (if v1 = (54 : Int32) then (1 : Int32) else v14) := ⟨_, rfl⟩
  obtain ⟨v16, hv16⟩ : ∃ z : Int32, z = (if v1 = (53 : Int32) then (1 : Int32) else v15) := ⟨_, rfl⟩
  obtain ⟨v17, hv17⟩ : ∃ z : Int32, z = (if v1 = (52 : Int32) then (1 : Int32) else v16) := ⟨_, rfl⟩
  obtain ⟨v18, hv18⟩ : ∃ z : Int32, z = (if v1 = (51 : Int32) then (1 : Int32) else v17) := ⟨_, rfl⟩
  obtain ⟨v19, hv19⟩ : ∃ z : Int32, z = (if v1 = (50 : Int32) then (1 : Int32) else v18) := ⟨_, rfl⟩
  obtain ⟨v20, hv20⟩ : ∃ z : Int32, z = (if v1 = (49 : Int32) then (1 : Int32) else v19) := ⟨_, rfl⟩
  obtain ⟨v21, hv21⟩ : ∃ z : Int32, z = (if v1 = (48 : Int32) then (1 : Int32) else v20) := ⟨_, rfl⟩
  obtain ⟨T130, lc130, X130, N130, e130, st130⟩ := own_mrg (n0 := n0) (h := h0) (g := (mkF m 9 #[.val (.int p0), .val (.int v1), .unset] [(.int (48 : Int32)), (.int v1)])) (g' := (mkF m 71 #[.val (.int p0), .val (.int v1), .unset] [(.int v21)])) X0 (by
    by_cases hc9_2 : v1 = (48 : Int32)
    · have hgo101 : ∀ t, Steps p.tables e below (s₁.setTop (mkF m 71 #[.val (.int p0), .val (.int v1), .unset] [(.int (1 : Int32))])) t → Steps p.tables e below (s₁.setTop (mkF m 9 #[.val (.int p0), .val (.int v1), .unset] [(.int (48 : Int32)), (.int v1)])) t := by
        intro t kt
        show Steps p.tables e below (s₁.setTop (mkF m 9 #[.val (.int p0), .val (.int v1), .unset] [(.int (48 : Int32)), (.int v1)])) _
        refine XS.icmpYes X0.here hx rfl (pc0 := 9) (pc' := 66) rfl (hb hby at_9) rfl (teq hc9_2).1 (by decide) (by decide) ?_
        show Steps p.tables e below (s₁.setTop (mkF m 66 #[.val (.int p0), .val (.int v1), .unset] [])) _
        refine XS.iconst X0.here hx rfl (hb hby at_66) ?_
        show Steps p.tables e below (s₁.setTop (mkF m 67 #[.val (.int p0), .val (.int v1), .unset] [(.int (1 : Int32))])) _
        refine XS.goto X0.here hx rfl (pc0 := 67) (pc' := 71) rfl (hb hby at_67) (by decide) (by decide) ?_
        exact kt
      refine own_arm hgo101 ?_
      exact own_armEnd X0 N0 e0 (by rw [hv21.trans (if_pos hc9_2)])
    · obtain ⟨T128, lc128, X128, N128, e128, st128⟩ := own_mrg (n0 := n0) (h := h0) (g := (mkF m 15 #[.val (.int p0), .val (.int v1), .unset] [(.int (49 : Int32)), (.int v1)])) (g' := (mkF m 71 #[.val (.int p0), .val (.int v1), .unset] [(.int v20)])) X0 (by
        by_cases hc15_3 : v1 = (49 : Int32)
        · have hgo102 : ∀ t, Steps p.tables e below (s₁.setTop (mkF m 71 #[.val (.int p0), .val (.int v1), .unset] [(.int (1 : Int32))])) t → Steps p.tables e below (s₁.setTop (mkF m 15 #[.val (.int p0), .val (.int v1), .unset] [(.int (49 : Int32)), (.int v1)])) t := by
            intro t kt
            show Steps p.tables e below (s₁.setTop (mkF m 15 #[.val (.int p0), .val (.int v1), .unset] [(.int (49 : Int32)), (.int v1)])) _
            refine XS.icmpYes X0.here hx rfl (pc0 := 15) (pc' := 66) rfl (hb hby at_15) rfl (teq hc15_3).1 (by decide) (by decide) ?_
            show Steps p.tables e below (s₁.setTop (mkF m 66 #[.val (.int p0), .val (.int v1), .unset] [])) _
            refine XS.iconst X0.here hx rfl (hb hby at_66) ?_
            show Steps p.tables e below (s₁.setTop (mkF m 67 #[.val (.int p0), .val (.int v1), .unset] [(.int (1 : Int32))])) _
            refine XS.goto X0.here hx rfl (pc0 := 67) (pc' := 71) rfl (hb hby at_67) (by decide) (by decide) ?_
            exact kt
          refine own_arm hgo102 ?_
          exact own_armEnd X0 N0 e0 (by rw [hv20.trans (if_pos hc15_3)])
        · obtain ⟨T126, lc126, X126, N126, e126, st126⟩ := own_mrg (n0 := n0) (h := h0) (g := (mkF m 21 #[.val (.int p0), .val (.int v1), .unset] [(.int (50 : Int32)), (.int v1)])) (g' := (mkF m 71 #[.val (.int p0), .val (.int v1), .unset] [(.int v19)])) X0 (by
            by_cases hc21_4 : v1 = (50 : Int32)
            · have hgo103 : ∀ t, Steps p.tables e below (s₁.setTop (mkF m 71 #[.val (.int p0), .val (.int v1), .unset] [(.int (1 : Int32))])) t → Steps p.tables e below (s₁.setTop (mkF m 21 #[.val (.int p0), .val (.int v1), .unset] [(.int (50 : Int32)), (.int v1)])) t := by
                intro t kt
                show Steps p.tables e below (s₁.setTop (mkF m 21 #[.val (.int p0), .val (.int v1), .unset] [(.int (50 : Int32)), (.int v1)])) _
                refine XS.icmpYes X0.here hx rfl (pc0 := 21) (pc' := 66) rfl (hb hby at_21) rfl (teq hc21_4).1 (by decide) (by decide) ?_
                show Steps p.tables e below (s₁.setTop (mkF m 66 #[.val (.int p0), .val (.int v1), .unset] [])) _
                refine XS.iconst X0.here hx rfl (hb hby at_66) ?_
                show Steps p.tables e below (s₁.setTop (mkF m 67 #[.val (.int p0), .val (.int v1), .unset] [(.int (1 : Int32))])) _
                refine XS.goto X0.here hx rfl (pc0 := 67) (pc' := 71) rfl (hb hby at_67) (by decide) (by decide) ?_
                exact kt
              refine own_arm hgo103 ?_
              exact own_armEnd X0 N0 e0 (by rw [hv19.trans (if_pos hc21_4)])
            · obtain ⟨T124, lc124, X124, N124, e124, st124⟩ := own_mrg (n0 := n0) (h := h0) (g := (mkF m 27 #[.val (.int p0), .val (.int v1), .unset] [(.int (51 : Int32)), (.int v1)])) (g' := (mkF m 71 #[.val (.int p0), .val (.int v1), .unset] [(.int v18)])) X0 (by
                by_cases hc27_5 : v1 = (51 : Int32)
                · have hgo104 : ∀ t, Steps p.tables e below (s₁.setTop (mkF m 71 #[.val (.int p0), .val (.int v1), .unset] [(.int (1 : Int32))])) t → Steps p.tables e below (s₁.setTop (mkF m 27 #[.val (.int p0), .val (.int v1), .unset] [(.int (51 : Int32)), (.int v1)])) t := by
                    intro t kt
                    show Steps p.tables e below (s₁.setTop (mkF m 27 #[.val (.int p0), .val (.int v1), .unset] [(.int (51 : Int32)), (.int v1)])) _
                    refine XS.icmpYes X0.here hx rfl (pc0 := 27) (pc' := 66) rfl (hb hby at_27) rfl (teq hc27_5).1 (by decide) (by decide) ?_
                    show Steps p.tables e below (s₁.setTop (mkF m 66 #[.val (.int p0), .val (.int v1), .unset] [])) _
                    refine XS.iconst X0.here hx rfl (hb hby at_66) ?_
                    show Steps p.tables e below (s₁.setTop (mkF m 67 #[.val (.int p0), .val (.int v1), .unset] [(.int (1 : Int32))])) _
                    refine XS.goto X0.here hx rfl (pc0 := 67) (pc' := 71) rfl (hb hby at_67) (by decide) (by decide) ?_
                    exact kt
                  refine own_arm hgo104 ?_
                  exact own_armEnd X0 N0 e0 (by rw [hv18.trans (if_pos hc27_5)])
                · obtain ⟨T122, lc122, X122, N122, e122, st122⟩ := own_mrg (n0 := n0) (h := h0) (g := (mkF m 33 #[.val (.int p0), .val (.int v1), .unset] [(.int (52 : Int32)), (.int v1)])) (g' := (mkF m 71 #[.val (.int p0), .val (.int v1), .unset] [(.int v17)])) X0 (by
                    by_cases hc33_6 : v1 = (52 : Int32)
                    · have hgo105 : ∀ t, Steps p.tables e below (s₁.setTop (mkF m 71 #[.val (.int p0), .val (.int v1), .unset] [(.int (1 : Int32))])) t → Steps p.tables e below (s₁.setTop (mkF m 33 #[.val (.int p0), .val (.int v1), .unset] [(.int (52 : Int32)), (.int v1)])) t := by
                        intro t kt
                        show Steps p.tables e below (s₁.setTop (mkF m 33 #[.val (.int p0), .val (.int v1), .unset] [(.int (52 : Int32)), (.int v1)])) _
                        refine XS.icmpYes X0.here hx rfl (pc0 := 33) (pc' := 66) rfl (hb hby at_33) rfl (teq hc33_6).1 (by decide) (by decide) ?_
                        show Steps p.tables e below (s₁.setTop (mkF m 66 #[.val (.int p0), .val (.int v1), .unset] [])) _
                        refine XS.iconst X0.here hx rfl (hb hby at_66) ?_
                        show Steps p.tables e below (s₁.setTop (mkF m 67 #[.val (.int p0), .val (.int v1), .unset] [(.int (1 : Int32))])) _
                        refine XS.goto X0.here hx rfl (pc0 := 67) (pc' := 71) rfl (hb hby at_67) (by decide) (by decide) ?_
                        exact kt
                      refine own_arm hgo105 ?_
                      exact own_armEnd X0 N0 e0 (by rw [hv17.trans (if_pos hc33_6)])
                    · obtain ⟨T120, lc120, X120, N120, e120, st120⟩ := own_mrg (n0 := n0) (h := h0) (g := (mkF m 39 #[.val (.int p0), .val (.int v1), .unset] [(.int (53 : Int32)), (.int v1)])) (g' := (mkF m 71 #[.val (.int p0), .val (.int v1), .unset] [(.int v16)])) X0 (by
                        by_cases hc39_7 : v1 = (53 : Int32)
                        · have hgo106 : ∀ t, Steps p.tables e below (s₁.setTop (mkF m 71 #[.val (.int p0), .val (.int v1), .unset] [(.int (1 : Int32))])) t → Steps p.tables e below (s₁.setTop (mkF m 39 #[.val (.int p0), .val (.int v1), .unset] [(.int (53 : Int32)), (.int v1)])) t := by
                            intro t kt
                            show Steps p.tables e below (s₁.setTop (mkF m 39 #[.val (.int p0), .val (.int v1), .unset] [(.int (53 : Int32)), (.int v1)])) _
                            refine XS.icmpYes X0.here hx rfl (pc0 := 39) (pc' := 66) rfl (hb hby at_39) rfl (teq hc39_7).1 (by decide) (by decide) ?_
                            show Steps p.tables e below (s₁.setTop (mkF m 66 #[.val (.int p0), .val (.int v1), .unset] [])) _
                            refine XS.iconst X0.here hx rfl (hb hby at_66) ?_
                            show Steps p.tables e below (s₁.setTop (mkF m 67 #[.val (.int p0), .val (.int v1), .unset] [(.int (1 : Int32))])) _
                            refine XS.goto X0.here hx rfl (pc0 := 67) (pc' := 71) rfl (hb hby at_67) (by decide) (by decide) ?_
                            exact kt
                          refine own_arm hgo106 ?_
                          exact own_armEnd X0 N0 e0 (by rw [hv16.trans (if_pos hc39_7)])
                        · obtain ⟨T118, lc118, X118, N118, e118, st118⟩ := own_mrg (n0 := n0) (h := h0) (g := (mkF m 45 #[.val (.int p0), .val (.int v1), .unset] [(.int (54 : Int32)), (.int v1)])) (g' := (mkF m 71 #[.val (.int p0), .val (.int v1), .unset] [(.int v15)])) X0 (by
                            by_cases hc45_8 : v1 = (54 : Int32)
                            · have hgo107 : ∀ t, Steps p.tables e below (s₁.setTop (mkF m 71 #[.val (.int p0), .val (.int v1), .unset] [(.int (1 : Int32))])) t → Steps p.tables e below (s₁.setTop (mkF m 45 #[.val (.int p0), .val (.int v1), .unset] [(.int (54 : Int32)), (.int v1)])) t := by
                                intro t kt
                                show Steps p.tables e below (s₁.setTop (mkF m 45 #[.val (.int p0), .val (.int v1), .unset] [(.int (54 : Int32)), (.int v1)])) _
                                refine XS.icmpYes X0.here hx rfl (pc0 := 45) (pc' := 66) rfl (hb hby at_45) rfl (teq hc45_8).1 (by decide) (by decide) ?_
                                show Steps p.tables e below (s₁.setTop (mkF m 66 #[.val (.int p0), .val (.int v1), .unset] [])) _
                                refine XS.iconst X0.here hx rfl (hb hby at_66) ?_
                                show Steps p.tables e below (s₁.setTop (mkF m 67 #[.val (.int p0), .val (.int v1), .unset] [(.int (1 : Int32))])) _
                                refine XS.goto X0.here hx rfl (pc0 := 67) (pc' := 71) rfl (hb hby at_67) (by decide) (by decide) ?_
                                exact kt
                              refine own_arm hgo107 ?_
                              exact own_armEnd X0 N0 e0 (by rw [hv15.trans (if_pos hc45_8)])
                            · obtain ⟨T116, lc116, X116, N116, e116, st116⟩ := own_mrg (n0 := n0) (h := h0) (g := (mkF m 51 #[.val (.int p0), .val (.int v1), .unset] [(.int (55 : Int32)), (.int v1)])) (g' := (mkF m 71 #[.val (.int p0), .val (.int v1), .unset] [(.int v14)])) X0 (by
                                by_cases hc51_9 : v1 = (55 : Int32)
                                · have hgo108 : ∀ t, Steps p.tables e below (s₁.setTop (mkF m 71 #[.val (.int p0), .val (.int v1), .unset] [(.int (1 : Int32))])) t → Steps p.tables e below (s₁.setTop (mkF m 51 #[.val (.int p0), .val (.int v1), .unset] [(.int (55 : Int32)), (.int v1)])) t := by
                                    intro t kt
                                    show Steps p.tables e below (s₁.setTop (mkF m 51 #[.val (.int p0), .val (.int v1), .unset] [(.int (55 : Int32)), (.int v1)])) _
                                    refine XS.icmpYes X0.here hx rfl (pc0 := 51) (pc' := 66) rfl (hb hby at_51) rfl (teq hc51_9).1 (by decide) (by decide) ?_
                                    show Steps p.tables e below (s₁.setTop (mkF m 66 #[.val (.int p0), .val (.int v1), .unset] [])) _
                                    refine XS.iconst X0.here hx rfl (hb hby at_66) ?_
                                    show Steps p.tables e below (s₁.setTop (mkF m 67 #[.val (.int p0), .val (.int v1), .unset] [(.int (1 : Int32))])) _
                                    refine XS.goto X0.here hx rfl (pc0 := 67) (pc' := 71) rfl (hb hby at_67) (by decide) (by decide) ?_
                                    exact kt
                                  refine own_arm hgo108 ?_
                                  exact own_armEnd X0 N0 e0 (by rw [hv14.trans (if_pos hc51_9)])
                                · obtain ⟨T114, lc114, X114, N114, e114, st114⟩ := own_mrg (n0 := n0) (h := h0) (g := (mkF m 57 #[.val (.int p0), .val (.int v1), .unset] [(.int (56 : Int32)), (.int v1)])) (g' := (mkF m 71 #[.val (.int p0), .val (.int v1), .unset] [(.int v13)])) X0 (by
                                    by_cases hc57_10 : v1 = (56 : Int32)
                                    · have hgo109 : ∀ t, Steps p.tables e below (s₁.setTop (mkF m 71 #[.val (.int p0), .val (.int v1), .unset] [(.int (1 : Int32))])) t → Steps p.tables e below (s₁.setTop (mkF m 57 #[.val (.int p0), .val (.int v1), .unset] [(.int (56 : Int32)), (.int v1)])) t := by
                                        intro t kt
                                        show Steps p.tables e below (s₁.setTop (mkF m 57 #[.val (.int p0), .val (.int v1), .unset] [(.int (56 : Int32)), (.int v1)])) _
                                        refine XS.icmpYes X0.here hx rfl (pc0 := 57) (pc' := 66) rfl (hb hby at_57) rfl (teq hc57_10).1 (by decide) (by decide) ?_
                                        show Steps p.tables e below (s₁.setTop (mkF m 66 #[.val (.int p0), .val (.int v1), .unset] [])) _
                                        refine XS.iconst X0.here hx rfl (hb hby at_66) ?_
                                        show Steps p.tables e below (s₁.setTop (mkF m 67 #[.val (.int p0), .val (.int v1), .unset] [(.int (1 : Int32))])) _
                                        refine XS.goto X0.here hx rfl (pc0 := 67) (pc' := 71) rfl (hb hby at_67) (by decide) (by decide) ?_
                                        exact kt
                                      refine own_arm hgo109 ?_
                                      exact own_armEnd X0 N0 e0 (by rw [hv13.trans (if_pos hc57_10)])
                                    · obtain ⟨T112, lc112, X112, N112, e112, st112⟩ := own_mrg (n0 := n0) (h := h0) (g := (mkF m 63 #[.val (.int p0), .val (.int v1), .unset] [(.int (57 : Int32)), (.int v1)])) (g' := (mkF m 71 #[.val (.int p0), .val (.int v1), .unset] [(.int v12)])) X0 (by
                                        by_cases hc63_11 : v1 = (57 : Int32)
                                        · have hgo110 : ∀ t, Steps p.tables e below (s₁.setTop (mkF m 71 #[.val (.int p0), .val (.int v1), .unset] [(.int (1 : Int32))])) t → Steps p.tables e below (s₁.setTop (mkF m 63 #[.val (.int p0), .val (.int v1), .unset] [(.int (57 : Int32)), (.int v1)])) t := by
                                            intro t kt
                                            show Steps p.tables e below (s₁.setTop (mkF m 63 #[.val (.int p0), .val (.int v1), .unset] [(.int (57 : Int32)), (.int v1)])) _
                                            refine XS.icmpNo X0.here hx rfl (hb hby at_63) rfl (teq hc63_11).2 ?_
                                            show Steps p.tables e below (s₁.setTop (mkF m 66 #[.val (.int p0), .val (.int v1), .unset] [])) _
                                            refine XS.iconst X0.here hx rfl (hb hby at_66) ?_
                                            show Steps p.tables e below (s₁.setTop (mkF m 67 #[.val (.int p0), .val (.int v1), .unset] [(.int (1 : Int32))])) _
                                            refine XS.goto X0.here hx rfl (pc0 := 67) (pc' := 71) rfl (hb hby at_67) (by decide) (by decide) ?_
                                            exact kt
                                          refine own_arm hgo110 ?_
                                          exact own_armEnd X0 N0 e0 (by rw [hv12.trans (if_pos hc63_11)])
                                        · have hgo111 : ∀ t, Steps p.tables e below (s₁.setTop (mkF m 71 #[.val (.int p0), .val (.int v1), .unset] [(.int (0 : Int32))])) t → Steps p.tables e below (s₁.setTop (mkF m 63 #[.val (.int p0), .val (.int v1), .unset] [(.int (57 : Int32)), (.int v1)])) t := by
                                            intro t kt
                                            show Steps p.tables e below (s₁.setTop (mkF m 63 #[.val (.int p0), .val (.int v1), .unset] [(.int (57 : Int32)), (.int v1)])) _
                                            refine XS.icmpYes X0.here hx rfl (pc0 := 63) (pc' := 70) rfl (hb hby at_63) rfl (feq hc63_11).2 (by decide) (by decide) ?_
                                            show Steps p.tables e below (s₁.setTop (mkF m 70 #[.val (.int p0), .val (.int v1), .unset] [])) _
                                            refine XS.iconst X0.here hx rfl (hb hby at_70) ?_
                                            exact kt
                                          refine own_arm hgo111 ?_
                                          exact own_armEnd X0 N0 e0 (by rw [hv12.trans (if_neg hc63_11)]))
                                      have hgo113 : ∀ t, Steps p.tables e below (T112.setTop (mkF m 71 #[.val (.int p0), .val (.int v1), .unset] [(.int v12)])) t → Steps p.tables e below (s₁.setTop (mkF m 57 #[.val (.int p0), .val (.int v1), .unset] [(.int (56 : Int32)), (.int v1)])) t := by
                                        intro t kt
                                        show Steps p.tables e below (s₁.setTop (mkF m 57 #[.val (.int p0), .val (.int v1), .unset] [(.int (56 : Int32)), (.int v1)])) _
                                        refine XS.icmpNo X0.here hx rfl (hb hby at_57) rfl (feq hc57_10).1 ?_
                                        show Steps p.tables e below (s₁.setTop (mkF m 60 #[.val (.int p0), .val (.int v1), .unset] [])) _
                                        refine XS.iloadN X0.here hx rfl (hb hby at_60) rfl ?_
                                        show Steps p.tables e below (s₁.setTop (mkF m 61 #[.val (.int p0), .val (.int v1), .unset] [(.int v1)])) _
                                        refine XS.bipush X0.here hx rfl (hb hby at_61) ?_
                                        show Steps p.tables e below (s₁.setTop (mkF m 63 #[.val (.int p0), .val (.int v1), .unset] [(.int (57 : Int32)), (.int v1)])) _
                                        refine st112 _ ?_
                                        exact kt
                                      refine own_arm hgo113 ?_
                                      exact own_armEnd X112 N112 e112 (by rw [hv13.trans (if_neg hc57_10)]))
                                  have hgo115 : ∀ t, Steps p.tables e below (T114.setTop (mkF m 71 #[.val (.int p0), .val (.int v1), .unset] [(.int v13)])) t → Steps p.tables e below (s₁.setTop (mkF m 51 #[.val (.int p0), .val (.int v1), .unset] [(.int (55 : Int32)), (.int v1)])) t := by
                                    intro t kt
                                    show Steps p.tables e below (s₁.setTop (mkF m 51 #[.val (.int p0), .val (.int v1), .unset] [(.int (55 : Int32)), (.int v1)])) _
                                    refine XS.icmpNo X0.here hx rfl (hb hby at_51) rfl (feq hc51_9).1 ?_
                                    show Steps p.tables e below (s₁.setTop (mkF m 54 #[.val (.int p0), .val (.int v1), .unset] [])) _
                                    refine XS.iloadN X0.here hx rfl (hb hby at_54) rfl ?_
                                    show Steps p.tables e below (s₁.setTop (mkF m 55 #[.val (.int p0), .val (.int v1), .unset] [(.int v1)])) _
                                    refine XS.bipush X0.here hx rfl (hb hby at_55) ?_
                                    show Steps p.tables e below (s₁.setTop (mkF m 57 #[.val (.int p0), .val (.int v1), .unset] [(.int (56 : Int32)), (.int v1)])) _
                                    refine st114 _ ?_
                                    exact kt
                                  refine own_arm hgo115 ?_
                                  exact own_armEnd X114 N114 e114 (by rw [hv14.trans (if_neg hc51_9)]))
                              have hgo117 : ∀ t, Steps p.tables e below (T116.setTop (mkF m 71 #[.val (.int p0), .val (.int v1), .unset] [(.int v14)])) t → Steps p.tables e below (s₁.setTop (mkF m 45 #[.val (.int p0), .val (.int v1), .unset] [(.int (54 : Int32)), (.int v1)])) t := by
                                intro t kt
                                show Steps p.tables e below (s₁.setTop (mkF m 45 #[.val (.int p0), .val (.int v1), .unset] [(.int (54 : Int32)), (.int v1)])) _
                                refine XS.icmpNo X0.here hx rfl (hb hby at_45) rfl (feq hc45_8).1 ?_
                                show Steps p.tables e below (s₁.setTop (mkF m 48 #[.val (.int p0), .val (.int v1), .unset] [])) _
                                refine XS.iloadN X0.here hx rfl (hb hby at_48) rfl ?_
                                show Steps p.tables e below (s₁.setTop (mkF m 49 #[.val (.int p0), .val (.int v1), .unset] [(.int v1)])) _
                                refine XS.bipush X0.here hx rfl (hb hby at_49) ?_
                                show Steps p.tables e below (s₁.setTop (mkF m 51 #[.val (.int p0), .val (.int v1), .unset] [(.int (55 : Int32)), (.int v1)])) _
                                refine st116 _ ?_
                                exact kt
                              refine own_arm hgo117 ?_
                              exact own_armEnd X116 N116 e116 (by rw [hv15.trans (if_neg hc45_8)]))
                          have hgo119 : ∀ t, Steps p.tables e below (T118.setTop (mkF m 71 #[.val (.int p0), .val (.int v1), .unset] [(.int v15)])) t → Steps p.tables e below (s₁.setTop (mkF m 39 #[.val (.int p0), .val (.int v1), .unset] [(.int (53 : Int32)), (.int v1)])) t := by
                            intro t kt
                            show Steps p.tables e below (s₁.setTop (mkF m 39 #[.val (.int p0), .val (.int v1), .unset] [(.int (53 : Int32)), (.int v1)])) _
                            refine XS.icmpNo X0.here hx rfl (hb hby at_39) rfl (feq hc39_7).1 ?_
                            show Steps p.tables e below (s₁.setTop (mkF m 42 #[.val (.int p0), .val (.int v1), .unset] [])) _
                            refine XS.iloadN X0.here hx rfl (hb hby at_42) rfl ?_
                            show Steps p.tables e below (s₁.setTop (mkF m 43 #[.val (.int p0), .val (.int v1), .unset] [(.int v1)])) _
                            refine XS.bipush X0.here hx rfl (hb hby at_43) ?_
                            show Steps p.tables e below (s₁.setTop (mkF m 45 #[.val (.int p0), .val (.int v1), .unset] [(.int (54 : Int32)), (.int v1)])) _
                            refine st118 _ ?_
                            exact kt
                          refine own_arm hgo119 ?_
                          exact own_armEnd X118 N118 e118 (by rw [hv16.trans (if_neg hc39_7)]))
                      have hgo121 : ∀ t, Steps p.tables e below (T120.setTop (mkF m 71 #[.val (.int p0), .val (.int v1), .unset] [(.int v16)])) t → Steps p.tables e below (s₁.setTop (mkF m 33 #[.val (.int p0), .val (.int v1), .unset] [(.int (52 : Int32)), (.int v1)])) t := by
                        intro t kt
                        show Steps p.tables e below (s₁.setTop (mkF m 33 #[.val (.int p0), .val (.int v1), .unset] [(.int (52 : Int32)), (.int v1)])) _
                        refine XS.icmpNo X0.here hx rfl (hb hby at_33) rfl (feq hc33_6).1 ?_
                        show Steps p.tables e below (s₁.setTop (mkF m 36 #[.val (.int p0), .val (.int v1), .unset] [])) _
                        refine XS.iloadN X0.here hx rfl (hb hby at_36) rfl ?_
                        show Steps p.tables e below (s₁.setTop (mkF m 37 #[.val (.int p0), .val (.int v1), .unset] [(.int v1)])) _
                        refine XS.bipush X0.here hx rfl (hb hby at_37) ?_
                        show Steps p.tables e below (s₁.setTop (mkF m 39 #[.val (.int p0), .val (.int v1), .unset] [(.int (53 : Int32)), (.int v1)])) _
                        refine st120 _ ?_
                        exact kt
                      refine own_arm hgo121 ?_
                      exact own_armEnd X120 N120 e120 (by rw [hv17.trans (if_neg hc33_6)]))
                  have hgo123 : ∀ t, Steps p.tables e below (T122.setTop (mkF m 71 #[.val (.int p0), .val (.int v1), .unset] [(.int v17)])) t → Steps p.tables e below (s₁.setTop (mkF m 27 #[.val (.int p0), .val (.int v1), .unset] [(.int (51 : Int32)), (.int v1)])) t := by
                    intro t kt
                    show Steps p.tables e below (s₁.setTop (mkF m 27 #[.val (.int p0), .val (.int v1), .unset] [(.int (51 : Int32)), (.int v1)])) _
                    refine XS.icmpNo X0.here hx rfl (hb hby at_27) rfl (feq hc27_5).1 ?_
                    show Steps p.tables e below (s₁.setTop (mkF m 30 #[.val (.int p0), .val (.int v1), .unset] [])) _
                    refine XS.iloadN X0.here hx rfl (hb hby at_30) rfl ?_
                    show Steps p.tables e below (s₁.setTop (mkF m 31 #[.val (.int p0), .val (.int v1), .unset] [(.int v1)])) _
                    refine XS.bipush X0.here hx rfl (hb hby at_31) ?_
                    show Steps p.tables e below (s₁.setTop (mkF m 33 #[.val (.int p0), .val (.int v1), .unset] [(.int (52 : Int32)), (.int v1)])) _
                    refine st122 _ ?_
                    exact kt
                  refine own_arm hgo123 ?_
                  exact own_armEnd X122 N122 e122 (by rw [hv18.trans (if_neg hc27_5)]))
              have hgo125 : ∀ t, Steps p.tables e below (T124.setTop (mkF m 71 #[.val (.int p0), .val (.int v1), .unset] [(.int v18)])) t → Steps p.tables e below (s₁.setTop (mkF m 21 #[.val (.int p0), .val (.int v1), .unset] [(.int (50 : Int32)), (.int v1)])) t := by
                intro t kt
                show Steps p.tables e below (s₁.setTop (mkF m 21 #[.val (.int p0), .val (.int v1), .unset] [(.int (50 : Int32)), (.int v1)])) _
                refine XS.icmpNo X0.here hx rfl (hb hby at_21) rfl (feq hc21_4).1 ?_
                show Steps p.tables e below (s₁.setTop (mkF m 24 #[.val (.int p0), .val (.int v1), .unset] [])) _
                refine XS.iloadN X0.here hx rfl (hb hby at_24) rfl ?_
                show Steps p.tables e below (s₁.setTop (mkF m 25 #[.val (.int p0), .val (.int v1), .unset] [(.int v1)])) _
                refine XS.bipush X0.here hx rfl (hb hby at_25) ?_
                show Steps p.tables e below (s₁.setTop (mkF m 27 #[.val (.int p0), .val (.int v1), .unset] [(.int (51 : Int32)), (.int v1)])) _
                refine st124 _ ?_
                exact kt
              refine own_arm hgo125 ?_
              exact own_armEnd X124 N124 e124 (by rw [hv19.trans (if_neg hc21_4)]))
          have hgo127 : ∀ t, Steps p.tables e below (T126.setTop (mkF m 71 #[.val (.int p0), .val (.int v1), .unset] [(.int v19)])) t → Steps p.tables e below (s₁.setTop (mkF m 15 #[.val (.int p0), .val (.int v1), .unset] [(.int (49 : Int32)), (.int v1)])) t := by
            intro t kt
            show Steps p.tables e below (s₁.setTop (mkF m 15 #[.val (.int p0), .val (.int v1), .unset] [(.int (49 : Int32)), (.int v1)])) _
            refine XS.icmpNo X0.here hx rfl (hb hby at_15) rfl (feq hc15_3).1 ?_
            show Steps p.tables e below (s₁.setTop (mkF m 18 #[.val (.int p0), .val (.int v1), .unset] [])) _
            refine XS.iloadN X0.here hx rfl (hb hby at_18) rfl ?_
            show Steps p.tables e below (s₁.setTop (mkF m 19 #[.val (.int p0), .val (.int v1), .unset] [(.int v1)])) _
            refine XS.bipush X0.here hx rfl (hb hby at_19) ?_
            show Steps p.tables e below (s₁.setTop (mkF m 21 #[.val (.int p0), .val (.int v1), .unset] [(.int (50 : Int32)), (.int v1)])) _
            refine st126 _ ?_
            exact kt
          refine own_arm hgo127 ?_
          exact own_armEnd X126 N126 e126 (by rw [hv20.trans (if_neg hc15_3)]))
      have hgo129 : ∀ t, Steps p.tables e below (T128.setTop (mkF m 71 #[.val (.int p0), .val (.int v1), .unset] [(.int v20)])) t → Steps p.tables e below (s₁.setTop (mkF m 9 #[.val (.int p0), .val (.int v1), .unset] [(.int (48 : Int32)), (.int v1)])) t := by
        intro t kt
        show Steps p.tables e below (s₁.setTop (mkF m 9 #[.val (.int p0), .val (.int v1), .unset] [(.int (48 : Int32)), (.int v1)])) _
        refine XS.icmpNo X0.here hx rfl (hb hby at_9) rfl (feq hc9_2).1 ?_
        show Steps p.tables e below (s₁.setTop (mkF m 12 #[.val (.int p0), .val (.int v1), .unset] [])) _
        refine XS.iloadN X0.here hx rfl (hb hby at_12) rfl ?_
        show Steps p.tables e below (s₁.setTop (mkF m 13 #[.val (.int p0), .val (.int v1), .unset] [(.int v1)])) _
        refine XS.bipush X0.here hx rfl (hb hby at_13) ?_
        show Steps p.tables e below (s₁.setTop (mkF m 15 #[.val (.int p0), .val (.int v1), .unset] [(.int (49 : Int32)), (.int v1)])) _
        refine st128 _ ?_
        exact kt
      refine own_arm hgo129 ?_
      exact own_armEnd X128 N128 e128 (by rw [hv21.trans (if_neg hc9_2)]))
  obtain ⟨_, _, ⟨T131, L131, k131, n131⟩, -, X131, ⟨Lc131, hQ131, l131, y131, z131⟩, st131⟩ := Jvm.LawKit.callS X130 hx (y := (⟨"com/example/millispan/millispan/TextSyntax", "isDigit", "(C)Z"⟩ : MethodName)) hown (mvT hZ (hw _ (List.mem_of_getElem? (i := 1) rfl))) (mvT hZ (hw _ (List.mem_of_getElem? (i := 2) rfl))) (mvT hZ (hw _ (List.mem_of_getElem? (i := 3) rfl))) (mvT hZ (hw _ (List.mem_of_getElem? (i := 4) rfl))) (by decide) (backOf (W := 0) (rm1 l Z a0 hw [] v1 h0 n0 Z0 ) hZ (hw _ (List.mem_of_getElem? (i := 4) rfl)) (hw _ (List.mem_of_getElem? (i := 3) rfl)) (by decide) (by decide)) (g := (mkF m 73 #[.val (.int p0), .val (.int v1), .val (.int v21)] [(.int v1)])) rfl (by rw [hml]; rfl) (argsL := [(.int v1)]) (rest := []) (lenOf pd1 rfl) rfl (by show 2 * 0 + _ ≤ _; exact Nat.le_of_eq rfl) (hb hby at_73) (fun _ _ => ⟨rfl, e130, (by decide : 0 + 0 ≤ _), (by decide : 0 + 0 ≤ _)⟩)
  dsimp only [Pt.U, Pt.locs, Pt.cells, Pt.slots] at X131 l131 y131 z131 st131 hQ131
  subst l131 y131 z131
  obtain ⟨rfl, N131q, e131⟩ := hQ131
  have N131 := Fr.app N130 N131q
  obtain ⟨v23, hv23⟩ : ∃ z : Int32, z = (if (own_r1 v1) = v21 then (1 : Int32) else (0 : Int32)) := ⟨_, rfl⟩
  obtain ⟨T134, lc134, X134, N134, e134, st134⟩ := own_mrg (n0 := n0) (h := h0) (g := (mkF m 77 #[.val (.int p0), .val (.int v1), .val (.int v21)] [(.int v21), (.int (own_r1 v1))])) (g' := (mkF m 85 #[.val (.int p0), .val (.int v1), .val (.int v21)] [(.int v23)])) X131 (by
    by_cases hc77_22 : (own_r1 v1) = v21
    · have hgo132 : ∀ t, Steps p.tables e below (T131.setTop (mkF m 85 #[.val (.int p0), .val (.int v1), .val (.int v21)] [(.int (1 : Int32))])) t → Steps p.tables e below (T131.setTop (mkF m 77 #[.val (.int p0), .val (.int v1), .val (.int v21)] [(.int v21), (.int (own_r1 v1))])) t := by
        intro t kt
        show Steps p.tables e below (T131.setTop (mkF m 77 #[.val (.int p0), .val (.int v1), .val (.int v21)] [(.int v21), (.int (own_r1 v1))])) _
        refine XS.icmpNo X131.here hx rfl (hb hby at_77) rfl (teq hc77_22).2 ?_
        show Steps p.tables e below (T131.setTop (mkF m 80 #[.val (.int p0), .val (.int v1), .val (.int v21)] [])) _
        refine XS.iconst X131.here hx rfl (hb hby at_80) ?_
        show Steps p.tables e below (T131.setTop (mkF m 81 #[.val (.int p0), .val (.int v1), .val (.int v21)] [(.int (1 : Int32))])) _
        refine XS.goto X131.here hx rfl (pc0 := 81) (pc' := 85) rfl (hb hby at_81) (by decide) (by decide) ?_
        exact kt
      refine own_arm hgo132 ?_
      exact own_armEnd X131 N131 e131 (by rw [hv23.trans (if_pos hc77_22)])
    · have hgo133 : ∀ t, Steps p.tables e below (T131.setTop (mkF m 85 #[.val (.int p0), .val (.int v1), .val (.int v21)] [(.int (0 : Int32))])) t → Steps p.tables e below (T131.setTop (mkF m 77 #[.val (.int p0), .val (.int v1), .val (.int v21)] [(.int v21), (.int (own_r1 v1))])) t := by
        intro t kt
        show Steps p.tables e below (T131.setTop (mkF m 77 #[.val (.int p0), .val (.int v1), .val (.int v21)] [(.int v21), (.int (own_r1 v1))])) _
        refine XS.icmpYes X131.here hx rfl (pc0 := 77) (pc' := 84) rfl (hb hby at_77) rfl (feq hc77_22).2 (by decide) (by decide) ?_
        show Steps p.tables e below (T131.setTop (mkF m 84 #[.val (.int p0), .val (.int v1), .val (.int v21)] [])) _
        refine XS.iconst X131.here hx rfl (hb hby at_84) ?_
        exact kt
      refine own_arm hgo133 ?_
      exact own_armEnd X131 N131 e131 (by rw [hv23.trans (if_neg hc77_22)]))
  have hgo135 : ∀ t, Steps p.tables e below (T134.setTop (mkF m 85 #[.val (.int p0), .val (.int v1), .val (.int v21)] [(.int v23)])) t → Steps p.tables e below (s₁.setTop (mkF m 0 #[.val (.int p0), .unset, .unset] [])) t := by
    intro t kt
    show Steps p.tables e below (s₁.setTop (mkF m 0 #[.val (.int p0), .unset, .unset] [])) _
    refine XS.iloadN X0.here hx rfl (hb hby at_0) rfl ?_
    show Steps p.tables e below (s₁.setTop (mkF m 1 #[.val (.int p0), .unset, .unset] [(.int p0)])) _
    refine X0.ldcInt hx hown (mvT hZ (hw _ (List.mem_of_getElem? (i := 0) rfl))) (g := (mkF m 1 #[.val (.int p0), .unset, .unset] [(.int p0)])) rfl (hb hby at_1) _ ?_
    show Steps p.tables e below (s₁.setTop (mkF m 3 #[.val (.int p0), .unset, .unset] [(.int (65535 : Int32)), (.int p0)])) _
    refine XS.iand X0.here hx rfl (hb hby at_3) rfl ?_
    show Steps p.tables e below (s₁.setTop (mkF m 4 #[.val (.int p0), .unset, .unset] [(.int (p0 &&& (65535 : Int32)))])) _
    refine XS.i2c X0.here hx rfl (hb hby at_4) rfl ?_
    show Steps p.tables e below (s₁.setTop (mkF m 5 #[.val (.int p0), .unset, .unset] [(.int ((p0 &&& (65535 : Int32)).toUInt32.toUInt16.toUInt32.toInt32))])) _
    rw [← hv1]
    show Steps p.tables e below (s₁.setTop (mkF m 5 #[.val (.int p0), .unset, .unset] [(.int v1)])) _
    refine XS.istoreN X0.here hx rfl (hb hby at_5) rfl (l' := #[.val (.int p0), .val (.int v1), .unset]) rfl ?_
    show Steps p.tables e below (s₁.setTop (mkF m 6 #[.val (.int p0), .val (.int v1), .unset] [])) _
    refine XS.iloadN X0.here hx rfl (hb hby at_6) rfl ?_
    show Steps p.tables e below (s₁.setTop (mkF m 7 #[.val (.int p0), .val (.int v1), .unset] [(.int v1)])) _
    refine XS.bipush X0.here hx rfl (hb hby at_7) ?_
    show Steps p.tables e below (s₁.setTop (mkF m 9 #[.val (.int p0), .val (.int v1), .unset] [(.int (48 : Int32)), (.int v1)])) _
    refine st130 _ ?_
    show Steps p.tables e below (T130.setTop (mkF m 71 #[.val (.int p0), .val (.int v1), .unset] [(.int v21)])) _
    refine XS.istoreN X130.here hx rfl (hb hby at_71) rfl (l' := #[.val (.int p0), .val (.int v1), .val (.int v21)]) rfl ?_
    show Steps p.tables e below (T130.setTop (mkF m 72 #[.val (.int p0), .val (.int v1), .val (.int v21)] [])) _
    refine XS.iloadN X130.here hx rfl (hb hby at_72) rfl ?_
    show Steps p.tables e below (T130.setTop (mkF m 73 #[.val (.int p0), .val (.int v1), .val (.int v21)] [(.int v1)])) _
    refine st131 _ ?_
    show Steps p.tables e below (T131.setTop (mkF m 76 #[.val (.int p0), .val (.int v1), .val (.int v21)] [(.int (own_r1 v1))])) _
    refine XS.iloadN X131.here hx rfl (hb hby at_76) rfl ?_
    show Steps p.tables e below (T131.setTop (mkF m 77 #[.val (.int p0), .val (.int v1), .val (.int v21)] [(.int v21), (.int (own_r1 v1))])) _
    refine st134 _ ?_
    exact kt
  refine own_go hgo135 ?_
  have hz136 : v23 = 1 := own_leaf0 hv1 hv12 hv13 hv14 hv15 hv16 hv17 hv18 hv19 hv20 hv21 hv23
  exact own_retZ X134 hx Bd.returns Bd.notSynchronized (hb hby at_85) (by decide) (by decide) (Or.inr hz136) ⟨by rw [hz136], N134⟩
set_option maxRecDepth 65536 in
set_option maxHeartbeats 40000000 in
theorem comes_1 {Post : Tables → Env → Array Value → State → Outcome → State → Prop} (hpost : ∀ tb e args s v u, (limb_1_1.after args s (.returned v) u = true ∧ limb_1_2.after args s (.returned v) u = true ∧ True) → FrameEnd s (.returned v) u (Jvm.fieldLocs frame_1_writes args s ++ Jvm.arrayLocs frame_1_arrays args s ++ Jvm.staticLocs frame_1_statics s) 0 0 → Post tb e args s (.returned v) u) :
    ArmFor flags0 classFile x code maxLocals ret World_1 tables_1 room_1 Calls_1 rest_1 Pre_1 Post := by
  intro l hfl _ _ p e ha hc hk s m args below hf hA hF happ hP
  obtain ⟨hcalls, hrest, hpre⟩ := hP
  obtain ⟨-, -, -, hnamed, -, -, -, hat⟩ := (Spec.applies_iff hf).mp happ
  obtain ⟨hg, hn⟩ := and_e (Cond.before_iff.mp (show (Jvm.Cond.and given_1 narrow_1).before args s = true from hpre))
  obtain ⟨gg1, gg2⟩ := and_e hg
  obtain ⟨w0, rfl⟩ : ∃ w0 : Value, args = #[w0] := by
    have hs : args.size = 1 := by simpa [Cond.value, given_1] using gg1
    obtain ⟨L⟩ := args
    match L, hs with
    | [w0], _ => exact ⟨w0, rfl⟩
  have hw := fun d (hd : d ∈ tables_1) => atoms_spec (ws := Jvm.Cond.code x code maxLocals ret :: tables_1) hat d (List.mem_cons_of_mem _ hd)
  have hfit : Fit s := fun {y c} hc i hi => by
    obtain ⟨ha, rfl⟩ := Array.getElem?_eq_some_iff.mp hc
    have q := List.all_eq_true.mp ((Array.all_eq_true_iff_forall_mem.mp hF) _ (Array.getElem_mem ha)) i (List.mem_range.mpr hi)
    simpa [Array.getElem?_eq_getElem hi] using q
  obtain ⟨i0, ei0⟩ := is_v gg2
  obtain rfl : w0 = (.int i0) := Option.some.inj ei0
  obtain ⟨n, o, h1, h2, h3, _, L, rfl, ⟨rfl, N⟩, hq⟩ := rm0 l s _ hw tables_1 i0 s.heap s.heap.size (Nat.le_refl _)  p e ha hc hk s m _ below hf ((Spec.applies_iff_loose hf).mp happ).1 ⟨rfl, State.Warmed39.refl s, rfl⟩ trivial
  refine ⟨n, _, h1, h2, h3, hpost _ _ _ _ _ _ ⟨Cond.after_iff.mpr rfl, Cond.after_iff.mpr (eq_i res_at (Term.int_eval (1)) rfl), trivial⟩ ⟨hq.1, hq.2.1, (hq.2.2.sift fun y hy => Or.inr (N y hy)).mono (by decide) (by decide)⟩⟩
theorem main_1_1 : Claimed_1_1 := comes_1 fun _ _ _ _ _ _ h hF => ⟨h.1, hF⟩
theorem main_1_2 : Claimed_1_2 := comes_1 fun _ _ _ _ _ _ h hF => ⟨h.2.1, hF⟩
end Jvm.Pilot.@@N@@
namespace Jvm.Pilot.@@N@@
open Jvm Jvm.ClassFile Sem Op Lib Jvm.Free Jvm.Stand Jvm.Pilot.@@N@@.Jvm.D
/-! MADE BY PROGRAM (witnessworld.py) out of the Statement's table words and the real class files: 9 classes; the members and pool entries that the words name. The judged class is class 1, her method 1. -/
namespace start1
open Jvm.ClassFile
def u (s : String) : CpInfo := .utf8 (stringToUtf16 s)
/-- a pool by its gaps: so many unusable entries, then the entry; so many at the end -/
def gap : Nat → List CpInfo → List CpInfo
  | 0, r => r
  | n + 1, r => .unusable :: gap n r
def poolList (es : List (Nat × CpInfo)) (last : Nat) : List CpInfo := es.foldr (fun e r => gap e.1 (e.2 :: r)) (gap last [])
def pool (es : List (Nat × CpInfo)) (last : Nat) : Array CpInfo := ⟨poolList es last⟩
def fileOf (pool : Array CpInfo) (this : Nat) (attrs : Array Attribute := #[]) (ms : Array MethodInfo := #[]) (fl : Nat := 33) (sup : Nat := 0) (ifs : Array Nat := #[]) (fds : Array FieldInfo := #[]) : ClassFile where
  minorVersion := 0
  majorVersion := 65
  constantPool := pool
  accessFlags := fl
  thisClass := this
  superClass := sup
  interfaces := ifs
  fields := fds
  methods := ms
  attributes := attrs
def plain (name : String) (sup : Option ClassId) : Class where
  name := name
  kind := .ordinary
  loader := none
  accessFlags := 33
  super := sup
  interfaces := #[]
  cf := none
  fields := #[]
  methods := #[]
  instanceTypes := #[]
  staticTypes := #[]
  resolved := #[]
  callSites := []
  init := .initialized
  statics := none
  mirror := none

def pool0 : Array CpInfo := pool [(5, u "<init>"), (0, u "()V"), (1, .class_ 10), (1, u "java/lang/Object")] 113

def k0m0 : Method := { name := "<init>", desc := "()V", sig := { parameters := [], returnType := none }, accessFlags := 1, code := none }
/-- java/lang/Object -/
def k0 : Class := { plain "java/lang/Object" none with
  accessFlags := 33
  interfaces := #[]
  cf := some (fileOf pool0 8 #[] #[{ accessFlags := 1, nameIndex := 5, descriptorIndex := 6, attributes := #[] }] 33 0 #[] #[])
  fields := #[]
  methods := #[k0m0]
  instanceTypes := #[]
  staticTypes := #[]
  resolved := Array.replicate 124 none
  statics := none }

def pool1 : Array CpInfo := pool [(2, .class_ 4), (1, u "java/lang/Object"), (0, u "<init>"), (0, u "()V"), (0, .integer 65535), (0, .methodref 9 10), (0, .class_ 11), (0, .nameAndType 12 13), (0, u "com/example/millispan/millispan/TextSyntax"), (0, u "isDigit"), (0, u "(C)Z"), (0, .class_ 15), (0, u "com/example/millispan/millispan/TextSyntaxIsDigitPinLaw"), (2, u "law"), (0, u "(I)Z")] 3

def k1m0 : Method := { name := "<init>", desc := "()V", sig := { parameters := [], returnType := none }, accessFlags := 2, code := none }
def k1c1 : Code := { maxStack := 2, maxLocals := 3, code := code, exceptionTable := #[], attributes := #[] }
def k1m1 : Method := { name := "law", desc := "(I)Z", sig := { parameters := [.int], returnType := some .boolean }, accessFlags := 9, code := some k1c1 }
/-- com/example/millispan/millispan/TextSyntaxIsDigitPinLaw -/
def k1 : Class := { plain "com/example/millispan/millispan/TextSyntaxIsDigitPinLaw" (some 0) with
  accessFlags := 49
  interfaces := #[]
  cf := some (fileOf pool1 14 #[] #[{ accessFlags := 2, nameIndex := 5, descriptorIndex := 6, attributes := #[] }, { accessFlags := 9, nameIndex := 18, descriptorIndex := 19, attributes := #[] }] 49 2 #[] #[])
  fields := #[]
  methods := #[k1m0, k1m1]
  instanceTypes := #[]
  staticTypes := #[]
  resolved := Array.replicate 23 none
  statics := none }

def pool2 : Array CpInfo := pool [(2, .class_ 4), (1, u "java/lang/Object"), (0, u "<init>"), (0, u "()V"), (11, .class_ 20), (1, u "com/example/millispan/millispan/TextSyntax"), (0, u "isDigit"), (0, u "(C)Z"), (95, u "OUT_OF_RANGE"), (0, u "Ljava/lang/String;"), (3, u "MAX_QUOTED_CODE_POINTS"), (0, u "I")] 16

def k2m0 : Method := { name := "<init>", desc := "()V", sig := { parameters := [], returnType := none }, accessFlags := 2, code := none }
def k2c1 : Code := { maxStack := 2, maxLocals := 1, code := prog_9_method_2_code, exceptionTable := #[], attributes := #[] }
def k2m1 : Method := { name := "isDigit", desc := "(C)Z", sig := { parameters := [.char], returnType := some .boolean }, accessFlags := 8, code := some k2c1 }
/-- com/example/millispan/millispan/TextSyntax -/
def k2 : Class := { plain "com/example/millispan/millispan/TextSyntax" (some 0) with
  accessFlags := 48
  interfaces := #[]
  cf := some (fileOf pool2 18 #[] #[{ accessFlags := 2, nameIndex := 5, descriptorIndex := 6, attributes := #[] }, { accessFlags := 8, nameIndex := 21, descriptorIndex := 22, attributes := #[] }] 48 2 #[] #[{ accessFlags := 24, nameIndex := 118, descriptorIndex := 119, attributes := #[] }, { accessFlags := 26, nameIndex := 123, descriptorIndex := 124, attributes := #[] }])
  fields := #[{ name := "OUT_OF_RANGE", type := (.object "java/lang/String"), accessFlags := 24, slot := 0, constantValue := 0 }, { name := "MAX_QUOTED_CODE_POINTS", type := .int, accessFlags := 26, slot := 1, constantValue := 0 }]
  methods := #[k2m0, k2m1]
  instanceTypes := #[]
  staticTypes := #[(.object "java/lang/String"), .int]
  resolved := Array.replicate 141 none
  statics := none }

def pool3 : Array CpInfo := pool [(1, u "java/lang/Cloneable"), (0, .class_ 1), (0, u "java/lang/Object"), (0, .class_ 3)] 3

/-- java/lang/Cloneable -/
def k3 : Class := { plain "java/lang/Cloneable" (some 0) with
  accessFlags := 1537
  interfaces := #[]
  cf := some (fileOf pool3 2 #[] #[] 1537 4 #[] #[])
  fields := #[]
  methods := #[]
  instanceTypes := #[]
  staticTypes := #[]
  resolved := Array.replicate 8 none
  statics := none }

def pool4 : Array CpInfo := pool [(1, u "java/io/Serializable"), (0, .class_ 1), (0, u "java/lang/Object"), (0, .class_ 3)] 3

/-- java/io/Serializable -/
def k4 : Class := { plain "java/io/Serializable" (some 0) with
  accessFlags := 1537
  interfaces := #[]
  cf := some (fileOf pool4 2 #[] #[] 1537 4 #[] #[])
  fields := #[]
  methods := #[]
  instanceTypes := #[]
  staticTypes := #[]
  resolved := Array.replicate 8 none
  statics := none }

/-- the primitive byte -/
def k5 : Class := { plain "byte" none with kind := .primitive 'B', accessFlags := 0x411 }
/-- [B -/
def k6 : Class := { plain "[B" (some 0) with kind := .array 5 .byte, interfaces := #[3, 4], accessFlags := 1041 }

/-- the primitive int -/
def k7 : Class := { plain "int" none with kind := .primitive 'I', accessFlags := 0x411 }
/-- [I -/
def k8 : Class := { plain "[I" (some 0) with kind := .array 7 .int, interfaces := #[3, 4], accessFlags := 1041 }

def heap : Heap := #[]
def classes : Array Class := #[k0, k1, k2, k3, k4, k5, k6, k7, k8]
def interned : List (Array UInt16 × Addr) := []
def slotsUsed : Nat := 0
def theMethod : MethodId := ⟨1, 1⟩
def args0 : Array Value := #[.int 5]
def aboutOver (below : List Frame) : State where
  vm := { classes := classes, interned := interned.toArray }
  heap := heap
  slotsUsed := slotsUsed
  threads := #[{ frames := .invoking theMethod args0 :: below }]
def below0 : List Frame := [.native { method := ⟨0, 0⟩, args := #[] }]
def about1 : State := aboutOver below0
def p0 : Program := .bare "" "" ""
def e0 : Env := launch0.env 0 0 0
theorem w_frames : about1.frames = Frame.invoking theMethod args0 :: below0 := rfl
set_option maxRecDepth 65536 in
theorem w_args : argsFit about1.vm theMethod args0 = true := by decide +kernel
set_option maxRecDepth 65536 in
theorem w_heap : heapFits about1 = true := by decide +kernel
set_option maxRecDepth 65536 in
theorem w_runnable : about1.curStatus? = some .runnable := by decide +kernel
set_option maxRecDepth 65536 in
theorem w_alone : about1.alone = true := by decide +kernel
set_option maxRecDepth 65536 in
theorem w_named : about1.methodNamed? x = some theMethod := by decide +kernel
set_option maxRecDepth 65536 in
theorem w_hears : about1.hears theMethod below0 = true := by decide +kernel
set_option maxRecDepth 65536 in
theorem w_ripe : about1.ripe theMethod args0 below0 = true := by decide +kernel
theorem w_running : about1.status = .running := rfl
set_option maxRecDepth 65536 in
theorem w_room : about1.hasRoom e0.platform room_1 = true :=
  launch0.hasRoom_least _ room_1 (by decide +kernel) (by decide +kernel) (by decide +kernel) (by decide +kernel) (by decide +kernel) (by decide +kernel)
theorem allAtoms_all (ts : List Jvm.Cond) (a : Array Jvm.Value) (st : Jvm.State) : (allAtoms ts).before a st = ts.all (fun c => c.before a st) := by
  induction ts with
  | nil => rfl
  | cons c t ih =>
    show (Jvm.Cond.and c (allAtoms t)).before a st = _
    rw [Jvm.Cond.before_and, ih, List.all_cons]
def words1 : List Jvm.Cond := Jvm.Cond.code x code maxLocals ret :: tables_1
/-- a 'code' word, met by the world's own term for the bytes: nothing is compared byte by byte -/
theorem code_word {y : MethodName} {bytes : ByteArray} {mx : Nat} {rt : Option FieldType} {a : Array Value} {s : State} {m : MethodId} {meth : Method} {c : Code} (h1 : s.methodNamed? y = some m) (h2 : s.vm.method? m = some meth) (h3 : meth.code = some c) (h4 : c.code = bytes)
    (h5 : (c.maxLocals == mx && c.exceptionTable.isEmpty && decide (c.maxStack ≤ mostOperands) && decide (meth.sig.returnType = rt) && !meth.locks && decide (parseMethodDescriptor y.desc = some meth.sig)) = true) : (Jvm.Cond.code y bytes mx rt).before a s = true := by
  simp only [Bool.and_eq_true, beq_iff_eq, Bool.not_eq_true', decide_eq_true_eq] at h5
  obtain ⟨⟨⟨⟨⟨g1, g2⟩, g3⟩, g4⟩, g5⟩, g6⟩ := h5
  simp [Cond.before, Cond.holds, Cond.value, h1, h2, h3, h4, g1, g2, g3, g4, g5, g6]
def isCode : Jvm.Cond → Bool
  | .code _ _ _ _ => true
  | _ => false
theorem all_split {L : List Jvm.Cond} {P : Jvm.Cond → Bool} (h1 : L.all (fun c => isCode c || P c) = true) (h2 : ∀ c ∈ L.filter isCode, P c = true) : L.all P = true := by
  refine List.all_eq_true.mpr fun c hc => ?_
  have h := List.all_eq_true.mp h1 c hc
  rcases Bool.eq_false_or_eq_true (isCode c) with hi | hi
  · exact h2 c (List.mem_filter.mpr ⟨hc, hi⟩)
  · simpa [hi] using h
set_option maxRecDepth 65536 in
theorem w_c0 : (Jvm.Cond.code x code maxLocals ret).before args0 about1 = true := code_word (m := ⟨1, 1⟩) (meth := k1m1) (c := k1c1) (by decide +kernel) rfl rfl rfl (by decide +kernel)
set_option maxRecDepth 65536 in
theorem w_c1 : (Jvm.Cond.code ({ cls := "com/example/millispan/millispan/TextSyntax", name := "isDigit", desc := "(C)Z" } : Jvm.MethodName) prog_9_method_2_code (1 : Nat) (Option.some Jvm.ClassFile.FieldType.boolean)).before args0 about1 = true := code_word (m := ⟨2, 1⟩) (meth := k2m1) (c := k2c1) (by decide +kernel) rfl rfl rfl (by decide +kernel)
def codes1 : List Jvm.Cond := [Jvm.Cond.code x code maxLocals ret, Jvm.Cond.code ({ cls := "com/example/millispan/millispan/TextSyntax", name := "isDigit", desc := "(C)Z" } : Jvm.MethodName) prog_9_method_2_code (1 : Nat) (Option.some Jvm.ClassFile.FieldType.boolean)]
set_option maxRecDepth 65536 in
theorem codes_eq : words1.filter isCode = codes1 := rfl
theorem w_codes : ∀ c ∈ words1.filter isCode, c.before args0 about1 = true := by
  rw [codes_eq]
  intro c hc
  simp only [codes1, List.mem_cons, List.not_mem_nil, or_false] at hc
  rcases hc with rfl | rfl
  · exact w_c0
  · exact w_c1
set_option maxRecDepth 65536 in
theorem w_t1 : words1.all (fun c => isCode c || c.before args0 about1) = true := by decide +kernel
theorem w_tables : (allAtoms (Jvm.Cond.code x code maxLocals ret :: tables_1)).before args0 about1 = true := by
  rw [allAtoms_all]
  show words1.all (fun c => c.before args0 about1) = true
  refine all_split ?_ w_codes
  rw [w_t1]
set_option maxRecDepth 65536 in
theorem w_case : (Jvm.Cond.and given_1 narrow_1).before args0 about1 = true := by decide +kernel
theorem w_applies : (headSpec (Jvm.Cond.code x code maxLocals ret :: tables_1) room_1).applies x e0.platform about1 = true :=
  (Spec.applies_iff w_frames).mpr ⟨w_running, w_runnable, w_alone, w_named, w_hears, w_ripe, w_room, w_tables⟩
theorem atStart : AtStart classFile x code maxLocals ret World_1 tables_1 room_1 Calls_1 rest_1 Pre_1 launch0 p0 e0 about1 theMethod args0 below0 :=
  ⟨lists_1, trivial, launch0.admits_env _ _ _, launch0.least_env, fairChoices_fair.cas, fairChoices_fair.clock, w_frames, w_args, w_heap, w_applies, trivial, trivial, w_case⟩
end start1
theorem witness_1 : WitnessClaimed_1 := ⟨start1.p0, start1.e0, start1.about1, start1.theMethod, start1.args0, start1.below0, start1.atStart⟩
end Jvm.Pilot.@@N@@
