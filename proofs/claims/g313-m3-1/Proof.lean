import JvmDerived
import JvmDerived.Pilot.@@N@@Statement
import JvmDerived.Pilot.@@N@@Code
set_option linter.unusedVariables false
set_option linter.unusedSimpArgs false
namespace Jvm.RoadKit
open Sem ClassFile Op Lib Jvm.Stand Jvm.Free Jvm.LawKit
section New
variable {p : Program} {l : Launch} {e : Env} {R : Room} {s : State} {m : MethodId} {args : Array Value} {below : List Frame} {meth : Method} {c : Code} {T : State} {locs : List Loc} {cells slots : Nat}
theorem retI (X : Stand p l e R s m args below meth c T locs cells slots) (hx : p.tables.exec = Jvm.exec) {pc : Nat} {Ls : Array Slot} {z : Int32} {rest : List Value} (hret : meth.sig.returnType = some .int) (hd : decode c.code pc = .ok (.ireturn, 1)) {fs : List Frame}
    (hl : ∀ (f : JFrame) (acts : List Action), f.method = m → f.locked = none → f.entered = [] → (doReturn e (T.setTop f) acts (some (.int z))).1 = T.setFrames fs) : Steps p.tables e below (T.setTop (mkF m pc Ls (.int z :: rest))) (T.setFrames fs) := by
  have hm' : T.vm.method? m = some meth := X.method'
  have hn : narrow .int (.int z) = .int z := rfl
  show Steps p.tables e below (T.setTop { method := m, pc := pc, locals := Ls, stack := _ :: rest, locked := none }) _
  jvm_step X.here [X.here.top, hx, hd, hm', hret, hn]
  first | (intro acts; rw [hl _ acts rfl rfl rfl]) | rw [hl _ _ rfl rfl rfl]
  exact Steps.refl _
/-- from the state A the body comes to its end, and what it leaves is Q's -/
def Go (tb : Tables) (e : Env) (below : List Frame) (s : State) (Q : Option Value → Heap → List Loc → Prop) (k n : Nat) (A : State) : Prop :=
  ∃ s₂ o, Steps tb e below A s₂ ∧ s₂.status = .running ∧ Ended s₂ below o ∧ ∃ v L, o = .returned v ∧ Q v s₂.heap L ∧ FrameEnd s o s₂ L k n
theorem Go.on {tb : Tables} {Q : Option Value → Heap → List Loc → Prop} {k n : Nat} {A B : State} (h : ∀ t, Steps tb e below B t → Steps tb e below A t) (g : Go tb e below s Q k n B) : Go tb e below s Q k n A := by
  obtain ⟨s₂, o, h1, h2⟩ := g
  exact ⟨s₂, o, h _ h1, h2⟩
theorem Go.via {tb : Tables} {Q : Option Value → Heap → List Loc → Prop} {k n : Nat} {A B : State} (h : Steps tb e below A B) (g : Go tb e below s Q k n B) : Go tb e below s Q k n A := by
  obtain ⟨s₂, o, h1, h2⟩ := g
  exact ⟨s₂, o, h.trans h1, h2⟩
theorem Go.retN (X : Stand p l e R s m args below meth c T locs cells slots) (hx : p.tables.exec = Jvm.exec) (hlk : meth.locks = false) {Q : Option Value → Heap → List Loc → Prop} {k n : Nat} {pc : Nat} {Ls : Array Slot} {z : Int32} {t : FieldType} {rest : List Value} (hret : meth.sig.returnType = some t) (ht : t = .boolean ∨ t = .byte ∨ t = .char ∨ t = .short)
    (hd : decode c.code pc = .ok (.ireturn, 1)) (hk : cells ≤ k) (hn : slots ≤ n) {h : Heap} (eT : T.heap = h) (q : Q (some (.int (nar t z))) h locs) : Go p.tables e below s Q k n (T.setTop (mkF m pc Ls (.int z :: rest))) := by
  obtain ⟨fs, hr, hrun, hended, hW, hsame⟩ := X.leave (v := some (.int (nar t z))) (fun h => by rw [hret] at h; cases h) hlk
  subst eT
  exact ⟨_, _, Jvm.RoadKit.retN X hx hret ht hd hr, hrun, hended, _, _, rfl, q, ⟨_, rfl⟩, hW, hsame.mono hk hn⟩
theorem Go.retI (X : Stand p l e R s m args below meth c T locs cells slots) (hx : p.tables.exec = Jvm.exec) (hlk : meth.locks = false) {Q : Option Value → Heap → List Loc → Prop} {k n : Nat} {pc : Nat} {Ls : Array Slot} {z : Int32} {rest : List Value} (hret : meth.sig.returnType = some .int)
    (hd : decode c.code pc = .ok (.ireturn, 1)) (hk : cells ≤ k) (hn : slots ≤ n) {h : Heap} (eT : T.heap = h) (q : Q (some (.int z)) h locs) : Go p.tables e below s Q k n (T.setTop (mkF m pc Ls (.int z :: rest))) := by
  obtain ⟨fs, hr, hrun, hended, hW, hsame⟩ := X.leave (v := some (.int z)) (fun h => by rw [hret] at h; cases h) hlk
  subst eT
  exact ⟨_, _, Jvm.RoadKit.retI X hx hret hd hr, hrun, hended, _, _, rfl, q, ⟨_, rfl⟩, hW, hsame.mono hk hn⟩
theorem Go.retJ (X : Stand p l e R s m args below meth c T locs cells slots) (hx : p.tables.exec = Jvm.exec) (hlk : meth.locks = false) {Q : Option Value → Heap → List Loc → Prop} {k n : Nat} {pc : Nat} {Ls : Array Slot} {z : Int64} (hret : meth.sig.returnType = some .long)
    (hd : decode c.code pc = .ok (.lreturn, 1)) (hk : cells ≤ k) (hn : slots ≤ n) {h : Heap} (eT : T.heap = h) (q : Q (some (.long z)) h locs) : Go p.tables e below s Q k n (T.setTop (mkF m pc Ls [.long z])) := by
  obtain ⟨fs, hr, hrun, hended, hW, hsame⟩ := X.leave (v := some (.long z)) (fun h => by rw [hret] at h; cases h) hlk
  subst eT
  exact ⟨_, _, X.lreturnOut hx hret hd hr, hrun, hended, _, _, rfl, q, ⟨_, rfl⟩, hW, hsame.mono hk hn⟩
theorem Go.retA (X : Stand p l e R s m args below meth c T locs cells slots) (hx : p.tables.exec = Jvm.exec) (hlk : meth.locks = false) {Q : Option Value → Heap → List Loc → Prop} {k n : Nat} {pc : Nat} {Ls : Array Slot} {w : Value} {t : FieldType} (hw : w.isRef = true) (hret : meth.sig.returnType = some t) (ht : t.isReference = true)
    (hd : decode c.code pc = .ok (.areturn, 1)) (hk : cells ≤ k) (hn : slots ≤ n) {h : Heap} (eT : T.heap = h) (q : Q (some w) h locs) : Go p.tables e below s Q k n (T.setTop (mkF m pc Ls [w])) := by
  obtain ⟨fs, hr, hrun, hended, hW, hsame⟩ := X.leave (v := some w) (fun h => by rw [hret] at h; cases h) hlk
  subst eT
  exact ⟨_, _, X.areturnOut hx hw hret ht hd hr, hrun, hended, _, _, rfl, q, ⟨_, rfl⟩, hW, hsame.mono hk hn⟩
theorem Go.retV (X : Stand p l e R s m args below meth c T locs cells slots) (hx : p.tables.exec = Jvm.exec) (hlk : meth.locks = false) {Q : Option Value → Heap → List Loc → Prop} {k n : Nat} {pc : Nat} {Ls : Array Slot} (hret : meth.sig.returnType = none)
    (hd : decode c.code pc = .ok (.return_, 1)) (hk : cells ≤ k) (hn : slots ≤ n) {h : Heap} (eT : T.heap = h) (q : Q none h locs) : Go p.tables e below s Q k n (T.setTop (mkF m pc Ls [])) := by
  obtain ⟨fs, hr, hrun, hended, hW, hsame⟩ := X.leave (v := none) (fun _ => rfl) hlk
  subst eT
  exact ⟨_, _, X.returnOut hx hret hd hr, hrun, hended, _, _, rfl, q, ⟨_, rfl⟩, hW, hsame.mono hk hn⟩
end New
end Jvm.RoadKit
namespace Jvm.Pilot.@@N@@
open Jvm Jvm.ClassFile Sem Op Lib Jvm.Free Jvm.Stand Jvm.LawKit Jvm.RoadKit Bundle Jvm.Pilot.@@N@@.Jvm.D

def own_min (a b : Int32) : Int32 := if b < a then b else a
def own_max (a b : Int32) : Int32 := if a < b then b else a
def own_b (P : Prop) [Decidable P] : Int32 := if P then 1 else 0
theorem own_b0 {P : Prop} [Decidable P] (h : own_b P = 0) : ¬ P := fun q => by rw [own_b, if_pos q] at h; cases h
theorem own_b1 {P : Prop} [Decidable P] (h : ¬ own_b P = 0) : P := Decidable.byContradiction fun q => h (by rw [own_b, if_neg q])
theorem own_bt {P : Prop} [Decidable P] (h : P) : own_b P = 1 := by rw [own_b, if_pos h]
theorem own_bf {P : Prop} [Decidable P] (h : ¬ P) : own_b P = 0 := by rw [own_b, if_neg h]
/-- clamping leaves x as it is just where x lies between the two -/
theorem own_clamp (a b x : Int32) : own_max (own_min a b) (own_min x (own_max a b)) = x ↔ (¬ x < own_min a b ∧ ¬ own_max a b < x) := by
  unfold own_max own_min
  simp only [Int32.lt_iff_toInt_lt]
  repeat' split
  all_goals simp only [Int32.lt_iff_toInt_lt, ← Int32.toInt_inj] at *
  all_goals first | omega | (simp only [true_iff]; omega)

theorem d1_0 : decode jdk_29_method_69_code 0 = .ok (.iload_n 0, 1) := by decide +kernel
theorem d1_1 : decode jdk_29_method_69_code 1 = .ok (.iload_n 1, 1) := by decide +kernel
theorem d1_2 : decode jdk_29_method_69_code 2 = .ok (.if_icmp .gt 7, 3) := by decide +kernel
theorem d1_5 : decode jdk_29_method_69_code 5 = .ok (.iload_n 0, 1) := by decide +kernel
theorem d1_6 : decode jdk_29_method_69_code 6 = .ok (.goto 4, 3) := by decide +kernel
theorem d1_9 : decode jdk_29_method_69_code 9 = .ok (.iload_n 1, 1) := by decide +kernel
theorem d1_10 : decode jdk_29_method_69_code 10 = .ok (.ireturn, 1) := by decide +kernel
theorem pd__40_II_41_I : parseMethodDescriptor "(II)I" = some ⟨[.int, .int], some .int⟩ := by decide +kernel
theorem pd__40_IIII_41_V : parseMethodDescriptor "(IIII)V" = some ⟨[.int, .int, .int, .int], none⟩ := by decide +kernel
theorem pd__40__41_V : parseMethodDescriptor "()V" = some ⟨[], none⟩ := by decide +kernel
theorem pd__40_III_41_Z : parseMethodDescriptor "(III)Z" = some ⟨[.int, .int, .int], some .boolean⟩ := by decide +kernel
theorem pd__40_II_41_Z : parseMethodDescriptor "(II)Z" = some ⟨[.int, .int], some .boolean⟩ := by decide +kernel
theorem ef_1 (m : MethodId) (x0 : Int32) (x1 : Int32) : entryFrame m #[(.int x0), (.int x1)] 2 = mkF m 0 #[.val (.int x0), .val (.int x1)] [] := by first | (simp [entryFrame, mkF, argsToLocals, Value.category]; done) | rfl
def Q1 (Z : State) (p1 : Int32) (p2 : Int32) (h0 : Heap) (n0 : Nat) (v : Option Value) (h : Heap) (L : List Loc) : Prop := v = some (.int (own_min p1 p2)) ∧ Fr n0 L ∧ h = h0
set_option maxRecDepth 65536 in
set_option maxHeartbeats 40000000 in
theorem rm1 (l : Launch) (Z : State) (a0 : Array Value) (hw : ∀ d ∈ tables_1, d.before a0 Z = true) (ws : List Jvm.Cond) (p1 : Int32) (p2 : Int32) (h0 : Heap) (n0 : Nat) (Z0 : n0 ≤ h0.size)  :
    MetFree l (⟨"java/lang/Math", "min", "(II)I"⟩ : MethodName) (head1 (Jvm.Cond.code (⟨"java/lang/Math", "min", "(II)I"⟩ : MethodName) jdk_29_method_69_code 2 (some .int) :: ws) ({ frames := 0, cells := 0, slots := 0, locals := 0 } : Room)) (fun a U => a = #[(.int p1), (.int p2)] ∧ Z.Warmed39 U.vm ∧ U.heap = h0) (fun _ _ _ _ _ => True) (fun _ U o U' => ∃ v L, o = .returned v ∧ Q1 Z p1 p2 h0 n0 v U'.heap L ∧ FrameEnd U o U' L ({ frames := 0, cells := 0, slots := 0, locals := 0 } : Room).cells ({ frames := 0, cells := 0, slots := 0, locals := 0 } : Room).slots) := by
  refine MetFree.of_bodySF (Jvm.Free.JP.mathPlain rfl (by decide +kernel)) hisR ?_
  intro p e s m args below meth c s₁ Bd hml0 hP hK
  obtain ⟨rfl, hZ, hh⟩ := hP
  have hx := Bd.exec
  have hby := Bd.bytes
  have hlk : meth.locks = false := BodyLoose.notSynchronized Bd
  have hml : c.maxLocals = 2 := hml0
  have hown : s.vm.findClass "java/lang/Math" = some m.cls := findClass_of_methodNamed Bd.named
  have hnm := (name_of_methodNamed Bd.named Bd.method).1
  have X0 : Stand p l e ({ frames := 0, cells := 0, slots := 0, locals := 0 } : Room) s m #[(.int p1), (.int p2)] below meth c s₁ [] 0 0 := Stand.of_body Bd
  have e0 : s₁.heap = h0 := by rw [← hh, Bd.state]; rfl
  have N0 := Fr.nil n0
  show Go p.tables e below s (Q1 Z p1 p2 h0 n0) ({ frames := 0, cells := 0, slots := 0, locals := 0 } : Room).cells ({ frames := 0, cells := 0, slots := 0, locals := 0 } : Room).slots (s₁.setTop (entryFrame m #[(.int p1), (.int p2)] 2))
  refine Go.on (fun t k => castTop (ef_1 m p1 p2) k) ?_
  show Go p.tables e below s _ _ _ (s₁.setTop (mkF m 0 #[.val (.int p1), .val (.int p2)] []))
  refine Go.on (fun t k => XS.iloadN X0.here hx rfl (hb hby d1_0) rfl k) ?_
  show Go p.tables e below s _ _ _ (s₁.setTop (mkF m 1 #[.val (.int p1), .val (.int p2)] [(.int p1)]))
  refine Go.on (fun t k => XS.iloadN X0.here hx rfl (hb hby d1_1) rfl k) ?_
  show Go p.tables e below s _ _ _ (s₁.setTop (mkF m 2 #[.val (.int p1), .val (.int p2)] [(.int p2), (.int p1)]))
  by_cases hc2_1 : p2 < p1
  · refine Go.on (fun t k => XS.icmpYes X0.here hx rfl (pc0 := 2) (pc' := 9) rfl (hb hby d1_2) rfl (tlt hc2_1).2.2.1 (by decide) (by decide) k) ?_
    show Go p.tables e below s _ _ _ (s₁.setTop (mkF m 9 #[.val (.int p1), .val (.int p2)] []))
    refine Go.on (fun t k => XS.iloadN X0.here hx rfl (hb hby d1_9) rfl k) ?_
    show Go p.tables e below s _ _ _ (s₁.setTop (mkF m 10 #[.val (.int p1), .val (.int p2)] [(.int p2)]))
    refine Go.retI X0 hx hlk Bd.returns (hb hby d1_10) (by decide) (by decide) e0 ?_
    exact ⟨(by simp [own_min, hc2_1]), N0, rfl⟩
  · refine Go.on (fun t k => XS.icmpNo X0.here hx rfl (hb hby d1_2) rfl (flt hc2_1).2.2.1 k) ?_
    show Go p.tables e below s _ _ _ (s₁.setTop (mkF m 5 #[.val (.int p1), .val (.int p2)] []))
    refine Go.on (fun t k => XS.iloadN X0.here hx rfl (hb hby d1_5) rfl k) ?_
    show Go p.tables e below s _ _ _ (s₁.setTop (mkF m 6 #[.val (.int p1), .val (.int p2)] [(.int p1)]))
    refine Go.on (fun t k => XS.goto X0.here hx rfl (pc0 := 6) (pc' := 10) rfl (hb hby d1_6) (by decide) (by decide) k) ?_
    show Go p.tables e below s _ _ _ (s₁.setTop (mkF m 10 #[.val (.int p1), .val (.int p2)] [(.int p1)]))
    refine Go.retI X0 hx hlk Bd.returns (hb hby d1_10) (by decide) (by decide) e0 ?_
    exact ⟨(by simp [own_min, hc2_1]), N0, rfl⟩
theorem d2_0 : decode jdk_29_method_65_code 0 = .ok (.iload_n 0, 1) := by decide +kernel
theorem d2_1 : decode jdk_29_method_65_code 1 = .ok (.iload_n 1, 1) := by decide +kernel
theorem d2_2 : decode jdk_29_method_65_code 2 = .ok (.if_icmp .lt 7, 3) := by decide +kernel
theorem d2_5 : decode jdk_29_method_65_code 5 = .ok (.iload_n 0, 1) := by decide +kernel
theorem d2_6 : decode jdk_29_method_65_code 6 = .ok (.goto 4, 3) := by decide +kernel
theorem d2_9 : decode jdk_29_method_65_code 9 = .ok (.iload_n 1, 1) := by decide +kernel
theorem d2_10 : decode jdk_29_method_65_code 10 = .ok (.ireturn, 1) := by decide +kernel
theorem ef_2 (m : MethodId) (x0 : Int32) (x1 : Int32) : entryFrame m #[(.int x0), (.int x1)] 2 = mkF m 0 #[.val (.int x0), .val (.int x1)] [] := by first | (simp [entryFrame, mkF, argsToLocals, Value.category]; done) | rfl
def Q2 (Z : State) (p1 : Int32) (p2 : Int32) (h0 : Heap) (n0 : Nat) (v : Option Value) (h : Heap) (L : List Loc) : Prop := v = some (.int (own_max p1 p2)) ∧ Fr n0 L ∧ h = h0
set_option maxRecDepth 65536 in
set_option maxHeartbeats 40000000 in
theorem rm2 (l : Launch) (Z : State) (a0 : Array Value) (hw : ∀ d ∈ tables_1, d.before a0 Z = true) (ws : List Jvm.Cond) (p1 : Int32) (p2 : Int32) (h0 : Heap) (n0 : Nat) (Z0 : n0 ≤ h0.size)  :
    MetFree l (⟨"java/lang/Math", "max", "(II)I"⟩ : MethodName) (head1 (Jvm.Cond.code (⟨"java/lang/Math", "max", "(II)I"⟩ : MethodName) jdk_29_method_65_code 2 (some .int) :: ws) ({ frames := 0, cells := 0, slots := 0, locals := 0 } : Room)) (fun a U => a = #[(.int p1), (.int p2)] ∧ Z.Warmed39 U.vm ∧ U.heap = h0) (fun _ _ _ _ _ => True) (fun _ U o U' => ∃ v L, o = .returned v ∧ Q2 Z p1 p2 h0 n0 v U'.heap L ∧ FrameEnd U o U' L ({ frames := 0, cells := 0, slots := 0, locals := 0 } : Room).cells ({ frames := 0, cells := 0, slots := 0, locals := 0 } : Room).slots) := by
  refine MetFree.of_bodySF (Jvm.Free.JP.mathPlain rfl (by decide +kernel)) hisR ?_
  intro p e s m args below meth c s₁ Bd hml0 hP hK
  obtain ⟨rfl, hZ, hh⟩ := hP
  have hx := Bd.exec
  have hby := Bd.bytes
  have hlk : meth.locks = false := BodyLoose.notSynchronized Bd
  have hml : c.maxLocals = 2 := hml0
  have hown : s.vm.findClass "java/lang/Math" = some m.cls := findClass_of_methodNamed Bd.named
  have hnm := (name_of_methodNamed Bd.named Bd.method).1
  have X0 : Stand p l e ({ frames := 0, cells := 0, slots := 0, locals := 0 } : Room) s m #[(.int p1), (.int p2)] below meth c s₁ [] 0 0 := Stand.of_body Bd
  have e0 : s₁.heap = h0 := by rw [← hh, Bd.state]; rfl
  have N0 := Fr.nil n0
  show Go p.tables e below s (Q2 Z p1 p2 h0 n0) ({ frames := 0, cells := 0, slots := 0, locals := 0 } : Room).cells ({ frames := 0, cells := 0, slots := 0, locals := 0 } : Room).slots (s₁.setTop (entryFrame m #[(.int p1), (.int p2)] 2))
  refine Go.on (fun t k => castTop (ef_2 m p1 p2) k) ?_
  show Go p.tables e below s _ _ _ (s₁.setTop (mkF m 0 #[.val (.int p1), .val (.int p2)] []))
  refine Go.on (fun t k => XS.iloadN X0.here hx rfl (hb hby d2_0) rfl k) ?_
  show Go p.tables e below s _ _ _ (s₁.setTop (mkF m 1 #[.val (.int p1), .val (.int p2)] [(.int p1)]))
  refine Go.on (fun t k => XS.iloadN X0.here hx rfl (hb hby d2_1) rfl k) ?_
  show Go p.tables e below s _ _ _ (s₁.setTop (mkF m 2 #[.val (.int p1), .val (.int p2)] [(.int p2), (.int p1)]))
  by_cases hc2_1 : p1 < p2
  · refine Go.on (fun t k => XS.icmpYes X0.here hx rfl (pc0 := 2) (pc' := 9) rfl (hb hby d2_2) rfl (tlt hc2_1).1 (by decide) (by decide) k) ?_
    show Go p.tables e below s _ _ _ (s₁.setTop (mkF m 9 #[.val (.int p1), .val (.int p2)] []))
    refine Go.on (fun t k => XS.iloadN X0.here hx rfl (hb hby d2_9) rfl k) ?_
    show Go p.tables e below s _ _ _ (s₁.setTop (mkF m 10 #[.val (.int p1), .val (.int p2)] [(.int p2)]))
    refine Go.retI X0 hx hlk Bd.returns (hb hby d2_10) (by decide) (by decide) e0 ?_
    exact ⟨(by simp [own_max, hc2_1]), N0, rfl⟩
  · refine Go.on (fun t k => XS.icmpNo X0.here hx rfl (hb hby d2_2) rfl (flt hc2_1).1 k) ?_
    show Go p.tables e below s _ _ _ (s₁.setTop (mkF m 5 #[.val (.int p1), .val (.int p2)] []))
    refine Go.on (fun t k => XS.iloadN X0.here hx rfl (hb hby d2_5) rfl k) ?_
    show Go p.tables e below s _ _ _ (s₁.setTop (mkF m 6 #[.val (.int p1), .val (.int p2)] [(.int p1)]))
    refine Go.on (fun t k => XS.goto X0.here hx rfl (pc0 := 6) (pc' := 10) rfl (hb hby d2_6) (by decide) (by decide) k) ?_
    show Go p.tables e below s _ _ _ (s₁.setTop (mkF m 10 #[.val (.int p1), .val (.int p2)] [(.int p1)]))
    refine Go.retI X0 hx hlk Bd.returns (hb hby d2_10) (by decide) (by decide) e0 ?_
    exact ⟨(by simp [own_max, hc2_1]), N0, rfl⟩
theorem d4_0 : decode jdk_30_method_1_code 0 = .ok (.aload_n 0, 1) := by decide +kernel
theorem d4_1 : decode jdk_30_method_1_code 1 = .ok (.invokespecial 1, 3) := by decide +kernel
theorem d4_4 : decode jdk_30_method_1_code 4 = .ok (.return_, 1) := by decide +kernel
theorem ef_4 (m : MethodId) (x0 : Addr) : entryFrame m #[(.ref x0)] 1 = mkF m 0 #[.val (.ref x0)] [] := by first | (simp [entryFrame, mkF, argsToLocals, Value.category]; done) | rfl
def Q4 (Z : State) (a1 : Addr) (h0 : Heap) (n0 : Nat) (v : Option Value) (h : Heap) (L : List Loc) : Prop := v = none ∧ Fr n0 L ∧ h = h0
theorem pn_java_lang_Record : plainName "java/lang/Record" = true := by first | (simp [plainName, overriddenIn]; done) | decide +kernel
set_option maxRecDepth 65536 in
set_option maxHeartbeats 40000000 in
theorem rm4 (l : Launch) (Z : State) (a0 : Array Value) (hw : ∀ d ∈ tables_1, d.before a0 Z = true) (ws : List Jvm.Cond) (a1 : Addr) (h0 : Heap) (n0 : Nat) (Z0 : n0 ≤ h0.size)  :
    MetFree l (⟨"java/lang/Record", "<init>", "()V"⟩ : MethodName) (head1 (Jvm.Cond.code (⟨"java/lang/Record", "<init>", "()V"⟩ : MethodName) jdk_30_method_1_code 1 none :: ws) ({ frames := 1, cells := 0, slots := 0, locals := 12 } : Room)) (fun a U => a = #[(.ref a1)] ∧ Z.Warmed39 U.vm ∧ U.heap = h0) (fun _ _ _ _ _ => True) (fun _ U o U' => ∃ v L, o = .returned v ∧ Q4 Z a1 h0 n0 v U'.heap L ∧ FrameEnd U o U' L ({ frames := 1, cells := 0, slots := 0, locals := 12 } : Room).cells ({ frames := 1, cells := 0, slots := 0, locals := 12 } : Room).slots) := by
  refine MetFree.of_bodySF (plainFor_of_name pn_java_lang_Record) hisR ?_
  intro p e s m args below meth c s₁ Bd hml0 hP hK
  obtain ⟨rfl, hZ, hh⟩ := hP
  have hx := Bd.exec
  have hby := Bd.bytes
  have hlk : meth.locks = false := BodyLoose.notSynchronized Bd
  have hml : c.maxLocals = 1 := hml0
  have hown : s.vm.findClass "java/lang/Record" = some m.cls := findClass_of_methodNamed Bd.named
  have hnm := (name_of_methodNamed Bd.named Bd.method).1
  have X0 : Stand p l e ({ frames := 1, cells := 0, slots := 0, locals := 12 } : Room) s m #[(.ref a1)] below meth c s₁ [] 0 0 := Stand.of_body Bd
  have e0 : s₁.heap = h0 := by rw [← hh, Bd.state]; rfl
  have N0 := Fr.nil n0
  show Go p.tables e below s (Q4 Z a1 h0 n0) ({ frames := 1, cells := 0, slots := 0, locals := 12 } : Room).cells ({ frames := 1, cells := 0, slots := 0, locals := 12 } : Room).slots (s₁.setTop (entryFrame m #[(.ref a1)] 1))
  refine Go.on (fun t k => castTop (ef_4 m a1) k) ?_
  show Go p.tables e below s _ _ _ (s₁.setTop (mkF m 0 #[.val (.ref a1)] []))
  refine Go.on (fun t k => XS.aloadN X0.here hx rfl (hb hby d4_0) rfl rfl k) ?_
  show Go p.tables e below s _ _ _ (s₁.setTop (mkF m 1 #[.val (.ref a1)] [(.ref a1)]))
  obtain ⟨T1, X1, e1, st1⟩ := initO X0 hx hZ hown (hw _ (List.mem_of_getElem? (i := 18) rfl)) (hw _ (List.mem_of_getElem? (i := 19) rfl)) (hw _ (List.mem_of_getElem? (i := 20) rfl)) e0 (g := (mkF m 1 #[.val (.ref a1)] [(.ref a1)])) rfl (by rw [hml]; rfl) rfl (hb hby d4_1) (by decide) (W := 0) (by show 2 * 0 + _ ≤ _; exact Nat.le_of_eq rfl) (by decide)
  refine Go.on st1 ?_
  show Go p.tables e below s _ _ _ (T1.setTop (mkF m 4 #[.val (.ref a1)] []))
  refine Go.retV X1 hx hlk Bd.returns (hb hby d4_4) (by decide) (by decide) e1 ?_
  exact ⟨rfl, N0, rfl⟩
theorem d3_0 : decode prog_4_method_1_code 0 = .ok (.aload_n 0, 1) := by decide +kernel
theorem d3_1 : decode prog_4_method_1_code 1 = .ok (.invokespecial 1, 3) := by decide +kernel
theorem d3_4 : decode prog_4_method_1_code 4 = .ok (.aload_n 0, 1) := by decide +kernel
theorem d3_5 : decode prog_4_method_1_code 5 = .ok (.iload_n 1, 1) := by decide +kernel
theorem d3_6 : decode prog_4_method_1_code 6 = .ok (.putfield 7, 3) := by decide +kernel
theorem d3_9 : decode prog_4_method_1_code 9 = .ok (.aload_n 0, 1) := by decide +kernel
theorem d3_10 : decode prog_4_method_1_code 10 = .ok (.iload_n 2, 1) := by decide +kernel
theorem d3_11 : decode prog_4_method_1_code 11 = .ok (.putfield 13, 3) := by decide +kernel
theorem d3_14 : decode prog_4_method_1_code 14 = .ok (.aload_n 0, 1) := by decide +kernel
theorem d3_15 : decode prog_4_method_1_code 15 = .ok (.iload_n 3, 1) := by decide +kernel
theorem d3_16 : decode prog_4_method_1_code 16 = .ok (.putfield 16, 3) := by decide +kernel
theorem d3_19 : decode prog_4_method_1_code 19 = .ok (.aload_n 0, 1) := by decide +kernel
theorem d3_20 : decode prog_4_method_1_code 20 = .ok (.iload 4, 2) := by decide +kernel
theorem d3_22 : decode prog_4_method_1_code 22 = .ok (.putfield 19, 3) := by decide +kernel
theorem d3_25 : decode prog_4_method_1_code 25 = .ok (.return_, 1) := by decide +kernel
theorem ef_3 (m : MethodId) (x0 : Addr) (x1 : Int32) (x2 : Int32) (x3 : Int32) (x4 : Int32) : entryFrame m #[(.ref x0), (.int x1), (.int x2), (.int x3), (.int x4)] 5 = mkF m 0 #[.val (.ref x0), .val (.int x1), .val (.int x2), .val (.int x3), .val (.int x4)] [] := by first | (simp [entryFrame, mkF, argsToLocals, Value.category]; done) | rfl
def Q3 (Z : State) (a1 : Addr) (p2 : Int32) (p3 : Int32) (p4 : Int32) (p5 : Int32) (u0 : Value) (u1 : Value) (u2 : Value) (u3 : Value) (h0 : Heap) (n0 : Nat) (v : Option Value) (h : Heap) (L : List Loc) : Prop := v = none ∧ Fr n0 L ∧ Keep h0 h [a1] ∧ Fld Z h a1 "com/example/gridshift/gridshift/CellRange" "firstColumn" "I" (.int p2) ∧ Fld Z h a1 "com/example/gridshift/gridshift/CellRange" "firstRow" "I" (.int p3) ∧ Fld Z h a1 "com/example/gridshift/gridshift/CellRange" "lastColumn" "I" (.int p4) ∧ Fld Z h a1 "com/example/gridshift/gridshift/CellRange" "lastRow" "I" (.int p5)
theorem pn_com_example_gridshift_gridshift_CellRange : plainName "com/example/gridshift/gridshift/CellRange" = true := by first | (simp [plainName, overriddenIn]; done) | decide +kernel
set_option maxRecDepth 65536 in
set_option maxHeartbeats 40000000 in
theorem rm3 (l : Launch) (Z : State) (a0 : Array Value) (hw : ∀ d ∈ tables_1, d.before a0 Z = true) (ws : List Jvm.Cond) (a1 : Addr) (p2 : Int32) (p3 : Int32) (p4 : Int32) (p5 : Int32) (u0 : Value) (u1 : Value) (u2 : Value) (u3 : Value) (h0 : Heap) (n0 : Nat) (Z0 : n0 ≤ h0.size) (E_a1 : Exa Z h0 a1 "com/example/gridshift/gridshift/CellRange") (ge_a1 : n0 ≤ a1) (F_firstColumn_a1 : Fld Z h0 a1 "com/example/gridshift/gridshift/CellRange" "firstColumn" "I" u0) (F_firstRow_a1 : Fld Z h0 a1 "com/example/gridshift/gridshift/CellRange" "firstRow" "I" u1) (F_lastColumn_a1 : Fld Z h0 a1 "com/example/gridshift/gridshift/CellRange" "lastColumn" "I" u2) (F_lastRow_a1 : Fld Z h0 a1 "com/example/gridshift/gridshift/CellRange" "lastRow" "I" u3) :
    MetFree l (⟨"com/example/gridshift/gridshift/CellRange", "<init>", "(IIII)V"⟩ : MethodName) (head1 (Jvm.Cond.code (⟨"com/example/gridshift/gridshift/CellRange", "<init>", "(IIII)V"⟩ : MethodName) prog_4_method_1_code 5 none :: ws) ({ frames := 2, cells := 0, slots := 0, locals := 24 } : Room)) (fun a U => a = #[(.ref a1), (.int p2), (.int p3), (.int p4), (.int p5)] ∧ Z.Warmed39 U.vm ∧ U.heap = h0) (fun _ _ _ _ _ => True) (fun _ U o U' => ∃ v L, o = .returned v ∧ Q3 Z a1 p2 p3 p4 p5 u0 u1 u2 u3 h0 n0 v U'.heap L ∧ FrameEnd U o U' L ({ frames := 2, cells := 0, slots := 0, locals := 24 } : Room).cells ({ frames := 2, cells := 0, slots := 0, locals := 24 } : Room).slots) := by
  refine MetFree.of_bodySF (plainFor_of_name pn_com_example_gridshift_gridshift_CellRange) hisR ?_
  intro p e s m args below meth c s₁ Bd hml0 hP hK
  obtain ⟨rfl, hZ, hh⟩ := hP
  have hx := Bd.exec
  have hby := Bd.bytes
  have hlk : meth.locks = false := BodyLoose.notSynchronized Bd
  have hml : c.maxLocals = 5 := hml0
  have hown : s.vm.findClass "com/example/gridshift/gridshift/CellRange" = some m.cls := findClass_of_methodNamed Bd.named
  have hnm := (name_of_methodNamed Bd.named Bd.method).1
  have X0 : Stand p l e ({ frames := 2, cells := 0, slots := 0, locals := 24 } : Room) s m #[(.ref a1), (.int p2), (.int p3), (.int p4), (.int p5)] below meth c s₁ [] 0 0 := Stand.of_body Bd
  have e0 : s₁.heap = h0 := by rw [← hh, Bd.state]; rfl
  have N0 := Fr.nil n0
  show Go p.tables e below s (Q3 Z a1 p2 p3 p4 p5 u0 u1 u2 u3 h0 n0) ({ frames := 2, cells := 0, slots := 0, locals := 24 } : Room).cells ({ frames := 2, cells := 0, slots := 0, locals := 24 } : Room).slots (s₁.setTop (entryFrame m #[(.ref a1), (.int p2), (.int p3), (.int p4), (.int p5)] 5))
  refine Go.on (fun t k => castTop (ef_3 m a1 p2 p3 p4 p5) k) ?_
  show Go p.tables e below s _ _ _ (s₁.setTop (mkF m 0 #[.val (.ref a1), .val (.int p2), .val (.int p3), .val (.int p4), .val (.int p5)] []))
  refine Go.on (fun t k => XS.aloadN X0.here hx rfl (hb hby d3_0) rfl rfl k) ?_
  show Go p.tables e below s _ _ _ (s₁.setTop (mkF m 1 #[.val (.ref a1), .val (.int p2), .val (.int p3), .val (.int p4), .val (.int p5)] [(.ref a1)]))
  obtain ⟨_, _, ⟨T1, L1, k1, n1⟩, -, X1, ⟨Lc1, hQ1, l1, y1, z1⟩, st1⟩ := X0.specialBack hx (y := (⟨"java/lang/Record", "<init>", "()V"⟩ : MethodName)) rfl hown (mvT hZ (hw _ (List.mem_of_getElem? (i := 13) rfl))) (mvT hZ (hw _ (List.mem_of_getElem? (i := 14) rfl))) (mvT hZ (hw _ (List.mem_of_getElem? (i := 17) rfl))) (by decide) (backOf (W := 0) (rm4 l Z a0 hw [] a1 h0 n0 Z0 ) hZ (hw _ (List.mem_of_getElem? (i := 17) rfl)) (hw _ (List.mem_of_getElem? (i := 16) rfl)) (by decide) (by decide)) (g := (mkF m 1 #[.val (.ref a1), .val (.int p2), .val (.int p3), .val (.int p4), .val (.int p5)] [(.ref a1)])) rfl (by rw [hml]; rfl) (Steps.refl _) (a := a1) (argsL := []) (rest := []) (lenOf pd__40__41_V rfl) rfl (by show 2 * 0 + _ ≤ _; exact Nat.le_of_eq rfl) (hb hby d3_1) (fun _ _ => ⟨rfl, e0, (by decide : 0 + 0 ≤ _), (by decide : 0 + 0 ≤ _)⟩)
  dsimp only [Pt.U, Pt.locs, Pt.cells, Pt.slots] at X1 l1 y1 z1 st1 hQ1
  subst l1 y1 z1
  obtain ⟨rfl, Nq1, e1⟩ := hQ1
  have Np2 := Fr.app N0 Nq1
  refine Go.via st1 ?_
  show Go p.tables e below s _ _ _ (T1.setTop (mkF m 4 #[.val (.ref a1), .val (.int p2), .val (.int p3), .val (.int p4), .val (.int p5)] []))
  refine Go.on (fun t k => XS.aloadN X1.here hx rfl (hb hby d3_4) rfl rfl k) ?_
  show Go p.tables e below s _ _ _ (T1.setTop (mkF m 5 #[.val (.ref a1), .val (.int p2), .val (.int p3), .val (.int p4), .val (.int p5)] [(.ref a1)]))
  refine Go.on (fun t k => XS.iloadN X1.here hx rfl (hb hby d3_5) rfl k) ?_
  show Go p.tables e below s _ _ _ (T1.setTop (mkF m 6 #[.val (.ref a1), .val (.int p2), .val (.int p3), .val (.int p4), .val (.int p5)] [(.int p2), (.ref a1)]))
  obtain ⟨T3, h3, X3, e3, W3, st3⟩ := putF X1 hx hZ hown (host := "") (Or.inl (hw _ (List.mem_of_getElem? (i := 21) rfl))) Via.refl e1 F_firstColumn_a1 E_a1 (Or.inr ⟨(hw _ (List.mem_of_getElem? (i := 22) rfl)), rfl, hnm⟩) (hw _ (List.mem_of_getElem? (i := 8) rfl)) (ty := .int) (by decide) rfl rfl (g := (mkF m 6 #[.val (.ref a1), .val (.int p2), .val (.int p3), .val (.int p4), .val (.int p5)] [(.int p2), (.ref a1)])) rfl rfl (hb hby d3_6)
  have E_a1_4 := E_a1.wr W3
  have F_firstColumn_a1_5 := F_firstColumn_a1.same W3
  have F_firstRow_a1_6 := F_firstRow_a1.other W3 (Or.inr (slot_ne (Or.inr (hw _ (List.mem_of_getElem? (i := 24) rfl))) (Or.inr (hw _ (List.mem_of_getElem? (i := 22) rfl))) (by decide) (t := .int) (t' := .int) (by decide) (by decide)))
  have F_lastColumn_a1_7 := F_lastColumn_a1.other W3 (Or.inr (slot_ne (Or.inr (hw _ (List.mem_of_getElem? (i := 26) rfl))) (Or.inr (hw _ (List.mem_of_getElem? (i := 22) rfl))) (by decide) (t := .int) (t' := .int) (by decide) (by decide)))
  have F_lastRow_a1_8 := F_lastRow_a1.other W3 (Or.inr (slot_ne (Or.inr (hw _ (List.mem_of_getElem? (i := 28) rfl))) (Or.inr (hw _ (List.mem_of_getElem? (i := 22) rfl))) (by decide) (t := .int) (t' := .int) (by decide) (by decide)))
  have Zp9 := Nat.le_trans Z0 (Keep.of_wr W3).1
  have Kp10 := (Keep.refl h0 [a1]).wr W3 (Or.inl (List.mem_of_getElem? (i := 0) rfl))
  have Np11 := Fr.snoc X3 Np2 ge_a1
  refine Go.on st3 ?_
  show Go p.tables e below s _ _ _ (T3.setTop (mkF m 9 #[.val (.ref a1), .val (.int p2), .val (.int p3), .val (.int p4), .val (.int p5)] []))
  refine Go.on (fun t k => XS.aloadN X3.here hx rfl (hb hby d3_9) rfl rfl k) ?_
  show Go p.tables e below s _ _ _ (T3.setTop (mkF m 10 #[.val (.ref a1), .val (.int p2), .val (.int p3), .val (.int p4), .val (.int p5)] [(.ref a1)]))
  refine Go.on (fun t k => XS.iloadN X3.here hx rfl (hb hby d3_10) rfl k) ?_
  show Go p.tables e below s _ _ _ (T3.setTop (mkF m 11 #[.val (.ref a1), .val (.int p2), .val (.int p3), .val (.int p4), .val (.int p5)] [(.int p3), (.ref a1)]))
  obtain ⟨T12, h12, X12, e12, W12, st12⟩ := putF X3 hx hZ hown (host := "") (Or.inl (hw _ (List.mem_of_getElem? (i := 23) rfl))) Via.refl e3 F_firstRow_a1_6 E_a1_4 (Or.inr ⟨(hw _ (List.mem_of_getElem? (i := 24) rfl)), rfl, hnm⟩) (hw _ (List.mem_of_getElem? (i := 8) rfl)) (ty := .int) (by decide) rfl rfl (g := (mkF m 11 #[.val (.ref a1), .val (.int p2), .val (.int p3), .val (.int p4), .val (.int p5)] [(.int p3), (.ref a1)])) rfl rfl (hb hby d3_11)
  have E_a1_13 := E_a1_4.wr W12
  have F_firstColumn_a1_14 := F_firstColumn_a1_5.other W12 (Or.inr (slot_ne (Or.inr (hw _ (List.mem_of_getElem? (i := 22) rfl))) (Or.inr (hw _ (List.mem_of_getElem? (i := 24) rfl))) (by decide) (t := .int) (t' := .int) (by decide) (by decide)))
  have F_firstRow_a1_15 := F_firstRow_a1_6.same W12
  have F_lastColumn_a1_16 := F_lastColumn_a1_7.other W12 (Or.inr (slot_ne (Or.inr (hw _ (List.mem_of_getElem? (i := 26) rfl))) (Or.inr (hw _ (List.mem_of_getElem? (i := 24) rfl))) (by decide) (t := .int) (t' := .int) (by decide) (by decide)))
  have F_lastRow_a1_17 := F_lastRow_a1_8.other W12 (Or.inr (slot_ne (Or.inr (hw _ (List.mem_of_getElem? (i := 28) rfl))) (Or.inr (hw _ (List.mem_of_getElem? (i := 24) rfl))) (by decide) (t := .int) (t' := .int) (by decide) (by decide)))
  have Zp18 := Nat.le_trans Zp9 (Keep.of_wr W12).1
  have Kp19 := Kp10.wr W12 (Or.inl (List.mem_of_getElem? (i := 0) rfl))
  have Np20 := Fr.snoc X12 Np11 ge_a1
  refine Go.on st12 ?_
  show Go p.tables e below s _ _ _ (T12.setTop (mkF m 14 #[.val (.ref a1), .val (.int p2), .val (.int p3), .val (.int p4), .val (.int p5)] []))
  refine Go.on (fun t k => XS.aloadN X12.here hx rfl (hb hby d3_14) rfl rfl k) ?_
  show Go p.tables e below s _ _ _ (T12.setTop (mkF m 15 #[.val (.ref a1), .val (.int p2), .val (.int p3), .val (.int p4), .val (.int p5)] [(.ref a1)]))
  refine Go.on (fun t k => XS.iloadN X12.here hx rfl (hb hby d3_15) rfl k) ?_
  show Go p.tables e below s _ _ _ (T12.setTop (mkF m 16 #[.val (.ref a1), .val (.int p2), .val (.int p3), .val (.int p4), .val (.int p5)] [(.int p4), (.ref a1)]))
  obtain ⟨T21, h21, X21, e21, W21, st21⟩ := putF X12 hx hZ hown (host := "") (Or.inl (hw _ (List.mem_of_getElem? (i := 25) rfl))) Via.refl e12 F_lastColumn_a1_16 E_a1_13 (Or.inr ⟨(hw _ (List.mem_of_getElem? (i := 26) rfl)), rfl, hnm⟩) (hw _ (List.mem_of_getElem? (i := 8) rfl)) (ty := .int) (by decide) rfl rfl (g := (mkF m 16 #[.val (.ref a1), .val (.int p2), .val (.int p3), .val (.int p4), .val (.int p5)] [(.int p4), (.ref a1)])) rfl rfl (hb hby d3_16)
  have E_a1_22 := E_a1_13.wr W21
  have F_firstColumn_a1_23 := F_firstColumn_a1_14.other W21 (Or.inr (slot_ne (Or.inr (hw _ (List.mem_of_getElem? (i := 22) rfl))) (Or.inr (hw _ (List.mem_of_getElem? (i := 26) rfl))) (by decide) (t := .int) (t' := .int) (by decide) (by decide)))
  have F_firstRow_a1_24 := F_firstRow_a1_15.other W21 (Or.inr (slot_ne (Or.inr (hw _ (List.mem_of_getElem? (i := 24) rfl))) (Or.inr (hw _ (List.mem_of_getElem? (i := 26) rfl))) (by decide) (t := .int) (t' := .int) (by decide) (by decide)))
  have F_lastColumn_a1_25 := F_lastColumn_a1_16.same W21
  have F_lastRow_a1_26 := F_lastRow_a1_17.other W21 (Or.inr (slot_ne (Or.inr (hw _ (List.mem_of_getElem? (i := 28) rfl))) (Or.inr (hw _ (List.mem_of_getElem? (i := 26) rfl))) (by decide) (t := .int) (t' := .int) (by decide) (by decide)))
  have Zp27 := Nat.le_trans Zp18 (Keep.of_wr W21).1
  have Kp28 := Kp19.wr W21 (Or.inl (List.mem_of_getElem? (i := 0) rfl))
  have Np29 := Fr.snoc X21 Np20 ge_a1
  refine Go.on st21 ?_
  show Go p.tables e below s _ _ _ (T21.setTop (mkF m 19 #[.val (.ref a1), .val (.int p2), .val (.int p3), .val (.int p4), .val (.int p5)] []))
  refine Go.on (fun t k => XS.aloadN X21.here hx rfl (hb hby d3_19) rfl rfl k) ?_
  show Go p.tables e below s _ _ _ (T21.setTop (mkF m 20 #[.val (.ref a1), .val (.int p2), .val (.int p3), .val (.int p4), .val (.int p5)] [(.ref a1)]))
  refine Go.on (fun t k => XS.iload X21.here hx rfl (hb hby d3_20) rfl k) ?_
  show Go p.tables e below s _ _ _ (T21.setTop (mkF m 22 #[.val (.ref a1), .val (.int p2), .val (.int p3), .val (.int p4), .val (.int p5)] [(.int p5), (.ref a1)]))
  obtain ⟨T30, h30, X30, e30, W30, st30⟩ := putF X21 hx hZ hown (host := "") (Or.inl (hw _ (List.mem_of_getElem? (i := 27) rfl))) Via.refl e21 F_lastRow_a1_26 E_a1_22 (Or.inr ⟨(hw _ (List.mem_of_getElem? (i := 28) rfl)), rfl, hnm⟩) (hw _ (List.mem_of_getElem? (i := 8) rfl)) (ty := .int) (by decide) rfl rfl (g := (mkF m 22 #[.val (.ref a1), .val (.int p2), .val (.int p3), .val (.int p4), .val (.int p5)] [(.int p5), (.ref a1)])) rfl rfl (hb hby d3_22)
  have E_a1_31 := E_a1_22.wr W30
  have F_firstColumn_a1_32 := F_firstColumn_a1_23.other W30 (Or.inr (slot_ne (Or.inr (hw _ (List.mem_of_getElem? (i := 22) rfl))) (Or.inr (hw _ (List.mem_of_getElem? (i := 28) rfl))) (by decide) (t := .int) (t' := .int) (by decide) (by decide)))
  have F_firstRow_a1_33 := F_firstRow_a1_24.other W30 (Or.inr (slot_ne (Or.inr (hw _ (List.mem_of_getElem? (i := 24) rfl))) (Or.inr (hw _ (List.mem_of_getElem? (i := 28) rfl))) (by decide) (t := .int) (t' := .int) (by decide) (by decide)))
  have F_lastColumn_a1_34 := F_lastColumn_a1_25.other W30 (Or.inr (slot_ne (Or.inr (hw _ (List.mem_of_getElem? (i := 26) rfl))) (Or.inr (hw _ (List.mem_of_getElem? (i := 28) rfl))) (by decide) (t := .int) (t' := .int) (by decide) (by decide)))
  have F_lastRow_a1_35 := F_lastRow_a1_26.same W30
  have Zp36 := Nat.le_trans Zp27 (Keep.of_wr W30).1
  have Kp37 := Kp28.wr W30 (Or.inl (List.mem_of_getElem? (i := 0) rfl))
  have Np38 := Fr.snoc X30 Np29 ge_a1
  refine Go.on st30 ?_
  show Go p.tables e below s _ _ _ (T30.setTop (mkF m 25 #[.val (.ref a1), .val (.int p2), .val (.int p3), .val (.int p4), .val (.int p5)] []))
  refine Go.retV X30 hx hlk Bd.returns (hb hby d3_25) (by decide) (by decide) e30 ?_
  exact ⟨rfl, Np38, Kp37, F_firstColumn_a1_32, F_firstRow_a1_33, F_lastColumn_a1_34, F_lastRow_a1_35⟩
theorem d6_0 : decode method_2_code 0 = .ok (.iload_n 0, 1) := by decide +kernel
theorem d6_1 : decode method_2_code 1 = .ok (.iload_n 2, 1) := by decide +kernel
theorem d6_2 : decode method_2_code 2 = .ok (.iload_n 1, 1) := by decide +kernel
theorem d6_3 : decode method_2_code 3 = .ok (.invokestatic 7, 3) := by decide +kernel
theorem d6_6 : decode method_2_code 6 = .ok (.invokestatic 13, 3) := by decide +kernel
theorem d6_9 : decode method_2_code 9 = .ok (.iload_n 2, 1) := by decide +kernel
theorem d6_10 : decode method_2_code 10 = .ok (.if_icmp .ne 7, 3) := by decide +kernel
theorem d6_13 : decode method_2_code 13 = .ok (.iconst 1, 1) := by decide +kernel
theorem d6_14 : decode method_2_code 14 = .ok (.goto 4, 3) := by decide +kernel
theorem d6_17 : decode method_2_code 17 = .ok (.iconst 0, 1) := by decide +kernel
theorem d6_18 : decode method_2_code 18 = .ok (.ireturn, 1) := by decide +kernel
theorem ef_6 (m : MethodId) (x0 : Int32) (x1 : Int32) (x2 : Int32) : entryFrame m #[(.int x0), (.int x1), (.int x2)] 3 = mkF m 0 #[.val (.int x0), .val (.int x1), .val (.int x2)] [] := by first | (simp [entryFrame, mkF, argsToLocals, Value.category]; done) | rfl
def Q6 (Z : State) (p1 : Int32) (p2 : Int32) (p3 : Int32) (h0 : Heap) (n0 : Nat) (v : Option Value) (h : Heap) (L : List Loc) : Prop := v = some (.int (own_b (own_max p1 (own_min p3 p2) = p3))) ∧ Fr n0 L ∧ h = h0
theorem pn_com_example_gridshift_gridshift_CellRangeContainsPinLaw : plainName "com/example/gridshift/gridshift/CellRangeContainsPinLaw" = true := by first | (simp [plainName, overriddenIn]; done) | decide +kernel
set_option maxRecDepth 65536 in
set_option maxHeartbeats 40000000 in
theorem rm6 (l : Launch) (Z : State) (a0 : Array Value) (hw : ∀ d ∈ tables_1, d.before a0 Z = true) (ws : List Jvm.Cond) (p1 : Int32) (p2 : Int32) (p3 : Int32) (h0 : Heap) (n0 : Nat) (Z0 : n0 ≤ h0.size)  :
    MetFree l (⟨"com/example/gridshift/gridshift/CellRangeContainsPinLaw", "clampKeeps", "(III)Z"⟩ : MethodName) (head1 (Jvm.Cond.code (⟨"com/example/gridshift/gridshift/CellRangeContainsPinLaw", "clampKeeps", "(III)Z"⟩ : MethodName) method_2_code 3 (some .boolean) :: ws) ({ frames := 1, cells := 0, slots := 0, locals := 14 } : Room)) (fun a U => a = #[(.int p1), (.int p2), (.int p3)] ∧ Z.Warmed39 U.vm ∧ U.heap = h0) (fun _ _ _ _ _ => True) (fun _ U o U' => ∃ v L, o = .returned v ∧ Q6 Z p1 p2 p3 h0 n0 v U'.heap L ∧ FrameEnd U o U' L ({ frames := 1, cells := 0, slots := 0, locals := 14 } : Room).cells ({ frames := 1, cells := 0, slots := 0, locals := 14 } : Room).slots) := by
  refine MetFree.of_bodySF (plainFor_of_name pn_com_example_gridshift_gridshift_CellRangeContainsPinLaw) hisR ?_
  intro p e s m args below meth c s₁ Bd hml0 hP hK
  obtain ⟨rfl, hZ, hh⟩ := hP
  have hx := Bd.exec
  have hby := Bd.bytes
  have hlk : meth.locks = false := BodyLoose.notSynchronized Bd
  have hml : c.maxLocals = 3 := hml0
  have hown : s.vm.findClass "com/example/gridshift/gridshift/CellRangeContainsPinLaw" = some m.cls := findClass_of_methodNamed Bd.named
  have hnm := (name_of_methodNamed Bd.named Bd.method).1
  have X0 : Stand p l e ({ frames := 1, cells := 0, slots := 0, locals := 14 } : Room) s m #[(.int p1), (.int p2), (.int p3)] below meth c s₁ [] 0 0 := Stand.of_body Bd
  have e0 : s₁.heap = h0 := by rw [← hh, Bd.state]; rfl
  have N0 := Fr.nil n0
  show Go p.tables e below s (Q6 Z p1 p2 p3 h0 n0) ({ frames := 1, cells := 0, slots := 0, locals := 14 } : Room).cells ({ frames := 1, cells := 0, slots := 0, locals := 14 } : Room).slots (s₁.setTop (entryFrame m #[(.int p1), (.int p2), (.int p3)] 3))
  refine Go.on (fun t k => castTop (ef_6 m p1 p2 p3) k) ?_
  show Go p.tables e below s _ _ _ (s₁.setTop (mkF m 0 #[.val (.int p1), .val (.int p2), .val (.int p3)] []))
  refine Go.on (fun t k => XS.iloadN X0.here hx rfl (hb hby d6_0) rfl k) ?_
  show Go p.tables e below s _ _ _ (s₁.setTop (mkF m 1 #[.val (.int p1), .val (.int p2), .val (.int p3)] [(.int p1)]))
  refine Go.on (fun t k => XS.iloadN X0.here hx rfl (hb hby d6_1) rfl k) ?_
  show Go p.tables e below s _ _ _ (s₁.setTop (mkF m 2 #[.val (.int p1), .val (.int p2), .val (.int p3)] [(.int p3), (.int p1)]))
  refine Go.on (fun t k => XS.iloadN X0.here hx rfl (hb hby d6_2) rfl k) ?_
  show Go p.tables e below s _ _ _ (s₁.setTop (mkF m 3 #[.val (.int p1), .val (.int p2), .val (.int p3)] [(.int p2), (.int p3), (.int p1)]))
  obtain ⟨_, _, ⟨T1, L1, k1, n1⟩, -, X1, ⟨Lc1, hQ1, l1, y1, z1⟩, st1⟩ := Jvm.LawKit.callS X0 hx (y := (⟨"java/lang/Math", "min", "(II)I"⟩ : MethodName)) hown (mvT hZ (hw _ (List.mem_of_getElem? (i := 0) rfl))) (mvT hZ (hw _ (List.mem_of_getElem? (i := 1) rfl))) (mvT hZ (hw _ (List.mem_of_getElem? (i := 2) rfl))) (mvT hZ (hw _ (List.mem_of_getElem? (i := 3) rfl))) (by decide) (backOf (W := 1) (rm1 l Z a0 hw [] p3 p2 h0 n0 Z0 ) hZ (hw _ (List.mem_of_getElem? (i := 3) rfl)) (hw _ (List.mem_of_getElem? (i := 2) rfl)) (by decide) (by decide)) (g := (mkF m 3 #[.val (.int p1), .val (.int p2), .val (.int p3)] [(.int p2), (.int p3), (.int p1)])) rfl (by rw [hml]; rfl) (argsL := [(.int p3), (.int p2)]) (rest := [(.int p1)]) (lenOf pd__40_II_41_I rfl) rfl (by show 2 * 0 + _ ≤ _; exact Nat.le_of_eq rfl) (hb hby d6_3) (fun _ _ => ⟨rfl, e0, (by decide : 0 + 0 ≤ _), (by decide : 0 + 0 ≤ _)⟩)
  dsimp only [Pt.U, Pt.locs, Pt.cells, Pt.slots] at X1 l1 y1 z1 st1 hQ1
  subst l1 y1 z1
  obtain ⟨rfl, Nq1, e1⟩ := hQ1
  have Np2 := Fr.app N0 Nq1
  refine Go.on st1 ?_
  show Go p.tables e below s _ _ _ (T1.setTop (mkF m 6 #[.val (.int p1), .val (.int p2), .val (.int p3)] [(.int (own_min p3 p2)), (.int p1)]))
  obtain ⟨_, _, ⟨T3, L3, k3, n3⟩, -, X3, ⟨Lc3, hQ3, l3, y3, z3⟩, st3⟩ := Jvm.LawKit.callS X1 hx (y := (⟨"java/lang/Math", "max", "(II)I"⟩ : MethodName)) hown (mvT hZ (hw _ (List.mem_of_getElem? (i := 4) rfl))) (mvT hZ (hw _ (List.mem_of_getElem? (i := 5) rfl))) (mvT hZ (hw _ (List.mem_of_getElem? (i := 2) rfl))) (mvT hZ (hw _ (List.mem_of_getElem? (i := 6) rfl))) (by decide) (backOf (W := 0) (rm2 l Z a0 hw [] p1 (own_min p3 p2) h0 n0 Z0 ) hZ (hw _ (List.mem_of_getElem? (i := 6) rfl)) (hw _ (List.mem_of_getElem? (i := 2) rfl)) (by decide) (by decide)) (g := (mkF m 6 #[.val (.int p1), .val (.int p2), .val (.int p3)] [(.int (own_min p3 p2)), (.int p1)])) rfl (by rw [hml]; rfl) (argsL := [(.int p1), (.int (own_min p3 p2))]) (rest := []) (lenOf pd__40_II_41_I rfl) rfl (by show 2 * 0 + _ ≤ _; exact Nat.le_of_eq rfl) (hb hby d6_6) (fun _ _ => ⟨rfl, e1, (by decide : (0 + 0) + 0 ≤ _), (by decide : (0 + 0) + 0 ≤ _)⟩)
  dsimp only [Pt.U, Pt.locs, Pt.cells, Pt.slots] at X3 l3 y3 z3 st3 hQ3
  subst l3 y3 z3
  obtain ⟨rfl, Nq3, e3⟩ := hQ3
  have Np4 := Fr.app Np2 Nq3
  refine Go.on st3 ?_
  show Go p.tables e below s _ _ _ (T3.setTop (mkF m 9 #[.val (.int p1), .val (.int p2), .val (.int p3)] [(.int (own_max p1 (own_min p3 p2)))]))
  refine Go.on (fun t k => XS.iloadN X3.here hx rfl (hb hby d6_9) rfl k) ?_
  show Go p.tables e below s _ _ _ (T3.setTop (mkF m 10 #[.val (.int p1), .val (.int p2), .val (.int p3)] [(.int p3), (.int (own_max p1 (own_min p3 p2)))]))
  by_cases hc10_5 : (own_max p1 (own_min p3 p2)) = p3
  · refine Go.on (fun t k => XS.icmpNo X3.here hx rfl (hb hby d6_10) rfl (teq hc10_5).2 k) ?_
    show Go p.tables e below s _ _ _ (T3.setTop (mkF m 13 #[.val (.int p1), .val (.int p2), .val (.int p3)] []))
    refine Go.on (fun t k => XS.iconst X3.here hx rfl (hb hby d6_13) k) ?_
    show Go p.tables e below s _ _ _ (T3.setTop (mkF m 14 #[.val (.int p1), .val (.int p2), .val (.int p3)] [(.int (1 : Int32))]))
    refine Go.on (fun t k => XS.goto X3.here hx rfl (pc0 := 14) (pc' := 18) rfl (hb hby d6_14) (by decide) (by decide) k) ?_
    show Go p.tables e below s _ _ _ (T3.setTop (mkF m 18 #[.val (.int p1), .val (.int p2), .val (.int p3)] [(.int (1 : Int32))]))
    refine Go.retN X3 hx hlk (t := .boolean) Bd.returns (by simp) (hb hby d6_18) (by decide) (by decide) e3 ?_
    exact ⟨(by rw [own_bt hc10_5]; rfl), Np4, rfl⟩
  · refine Go.on (fun t k => XS.icmpYes X3.here hx rfl (pc0 := 10) (pc' := 17) rfl (hb hby d6_10) rfl (feq hc10_5).2 (by decide) (by decide) k) ?_
    show Go p.tables e below s _ _ _ (T3.setTop (mkF m 17 #[.val (.int p1), .val (.int p2), .val (.int p3)] []))
    refine Go.on (fun t k => XS.iconst X3.here hx rfl (hb hby d6_17) k) ?_
    show Go p.tables e below s _ _ _ (T3.setTop (mkF m 18 #[.val (.int p1), .val (.int p2), .val (.int p3)] [(.int (0 : Int32))]))
    refine Go.retN X3 hx hlk (t := .boolean) Bd.returns (by simp) (hb hby d6_18) (by decide) (by decide) e3 ?_
    exact ⟨(by rw [own_bf hc10_5]; rfl), Np4, rfl⟩
theorem d7_0 : decode prog_4_method_10_code 0 = .ok (.aload_n 0, 1) := by decide +kernel
theorem d7_1 : decode prog_4_method_10_code 1 = .ok (.getfield 7, 3) := by decide +kernel
theorem d7_4 : decode prog_4_method_10_code 4 = .ok (.iload_n 1, 1) := by decide +kernel
theorem d7_5 : decode prog_4_method_10_code 5 = .ok (.if_icmp .gt 31, 3) := by decide +kernel
theorem d7_8 : decode prog_4_method_10_code 8 = .ok (.iload_n 1, 1) := by decide +kernel
theorem d7_9 : decode prog_4_method_10_code 9 = .ok (.aload_n 0, 1) := by decide +kernel
theorem d7_10 : decode prog_4_method_10_code 10 = .ok (.getfield 16, 3) := by decide +kernel
theorem d7_13 : decode prog_4_method_10_code 13 = .ok (.if_icmp .gt 23, 3) := by decide +kernel
theorem d7_16 : decode prog_4_method_10_code 16 = .ok (.aload_n 0, 1) := by decide +kernel
theorem d7_17 : decode prog_4_method_10_code 17 = .ok (.getfield 13, 3) := by decide +kernel
theorem d7_20 : decode prog_4_method_10_code 20 = .ok (.iload_n 2, 1) := by decide +kernel
theorem d7_21 : decode prog_4_method_10_code 21 = .ok (.if_icmp .gt 15, 3) := by decide +kernel
theorem d7_24 : decode prog_4_method_10_code 24 = .ok (.iload_n 2, 1) := by decide +kernel
theorem d7_25 : decode prog_4_method_10_code 25 = .ok (.aload_n 0, 1) := by decide +kernel
theorem d7_26 : decode prog_4_method_10_code 26 = .ok (.getfield 19, 3) := by decide +kernel
theorem d7_29 : decode prog_4_method_10_code 29 = .ok (.if_icmp .gt 7, 3) := by decide +kernel
theorem d7_32 : decode prog_4_method_10_code 32 = .ok (.iconst 1, 1) := by decide +kernel
theorem d7_33 : decode prog_4_method_10_code 33 = .ok (.goto 4, 3) := by decide +kernel
theorem d7_36 : decode prog_4_method_10_code 36 = .ok (.iconst 0, 1) := by decide +kernel
theorem d7_37 : decode prog_4_method_10_code 37 = .ok (.ireturn, 1) := by decide +kernel
theorem ef_7 (m : MethodId) (x0 : Addr) (x1 : Int32) (x2 : Int32) : entryFrame m #[(.ref x0), (.int x1), (.int x2)] 3 = mkF m 0 #[.val (.ref x0), .val (.int x1), .val (.int x2)] [] := by first | (simp [entryFrame, mkF, argsToLocals, Value.category]; done) | rfl
def Q7 (Z : State) (a1 : Addr) (p2 : Int32) (p3 : Int32) (c1 : Int32) (r1 : Int32) (c2 : Int32) (r2 : Int32) (h0 : Heap) (n0 : Nat) (v : Option Value) (h : Heap) (L : List Loc) : Prop := v = some (.int (own_b (¬ p2 < c1 ∧ ¬ c2 < p2 ∧ ¬ p3 < r1 ∧ ¬ r2 < p3))) ∧ Fr n0 L ∧ h = h0
set_option maxRecDepth 65536 in
set_option maxHeartbeats 40000000 in
theorem rm7 (l : Launch) (Z : State) (a0 : Array Value) (hw : ∀ d ∈ tables_1, d.before a0 Z = true) (ws : List Jvm.Cond) (a1 : Addr) (p2 : Int32) (p3 : Int32) (c1 : Int32) (r1 : Int32) (c2 : Int32) (r2 : Int32) (h0 : Heap) (n0 : Nat) (Z0 : n0 ≤ h0.size) (F_firstColumn_a1 : Fld Z h0 a1 "com/example/gridshift/gridshift/CellRange" "firstColumn" "I" (.int c1)) (F_firstRow_a1 : Fld Z h0 a1 "com/example/gridshift/gridshift/CellRange" "firstRow" "I" (.int r1)) (F_lastColumn_a1 : Fld Z h0 a1 "com/example/gridshift/gridshift/CellRange" "lastColumn" "I" (.int c2)) (F_lastRow_a1 : Fld Z h0 a1 "com/example/gridshift/gridshift/CellRange" "lastRow" "I" (.int r2)) :
    MetFree l (⟨"com/example/gridshift/gridshift/CellRange", "contains", "(II)Z"⟩ : MethodName) (head1 (Jvm.Cond.code (⟨"com/example/gridshift/gridshift/CellRange", "contains", "(II)Z"⟩ : MethodName) prog_4_method_10_code 3 (some .boolean) :: ws) ({ frames := 0, cells := 0, slots := 0, locals := 0 } : Room)) (fun a U => a = #[(.ref a1), (.int p2), (.int p3)] ∧ Z.Warmed39 U.vm ∧ U.heap = h0) (fun _ _ _ _ _ => True) (fun _ U o U' => ∃ v L, o = .returned v ∧ Q7 Z a1 p2 p3 c1 r1 c2 r2 h0 n0 v U'.heap L ∧ FrameEnd U o U' L ({ frames := 0, cells := 0, slots := 0, locals := 0 } : Room).cells ({ frames := 0, cells := 0, slots := 0, locals := 0 } : Room).slots) := by
  refine MetFree.of_bodySF (plainFor_of_name pn_com_example_gridshift_gridshift_CellRange) hisR ?_
  intro p e s m args below meth c s₁ Bd hml0 hP hK
  obtain ⟨rfl, hZ, hh⟩ := hP
  have hx := Bd.exec
  have hby := Bd.bytes
  have hlk : meth.locks = false := BodyLoose.notSynchronized Bd
  have hml : c.maxLocals = 3 := hml0
  have hown : s.vm.findClass "com/example/gridshift/gridshift/CellRange" = some m.cls := findClass_of_methodNamed Bd.named
  have hnm := (name_of_methodNamed Bd.named Bd.method).1
  have X0 : Stand p l e ({ frames := 0, cells := 0, slots := 0, locals := 0 } : Room) s m #[(.ref a1), (.int p2), (.int p3)] below meth c s₁ [] 0 0 := Stand.of_body Bd
  have e0 : s₁.heap = h0 := by rw [← hh, Bd.state]; rfl
  have N0 := Fr.nil n0
  show Go p.tables e below s (Q7 Z a1 p2 p3 c1 r1 c2 r2 h0 n0) ({ frames := 0, cells := 0, slots := 0, locals := 0 } : Room).cells ({ frames := 0, cells := 0, slots := 0, locals := 0 } : Room).slots (s₁.setTop (entryFrame m #[(.ref a1), (.int p2), (.int p3)] 3))
  refine Go.on (fun t k => castTop (ef_7 m a1 p2 p3) k) ?_
  show Go p.tables e below s _ _ _ (s₁.setTop (mkF m 0 #[.val (.ref a1), .val (.int p2), .val (.int p3)] []))
  refine Go.on (fun t k => XS.aloadN X0.here hx rfl (hb hby d7_0) rfl rfl k) ?_
  show Go p.tables e below s _ _ _ (s₁.setTop (mkF m 1 #[.val (.ref a1), .val (.int p2), .val (.int p3)] [(.ref a1)]))
  obtain ⟨T1, X1, e1, st1⟩ := getF X0 hx hZ hown (host := "") (Or.inl (hw _ (List.mem_of_getElem? (i := 21) rfl))) Via.refl e0 F_firstColumn_a1 (g := (mkF m 1 #[.val (.ref a1), .val (.int p2), .val (.int p3)] [(.ref a1)])) rfl rfl (hb hby d7_1)
  refine Go.on st1 ?_
  show Go p.tables e below s _ _ _ (T1.setTop (mkF m 4 #[.val (.ref a1), .val (.int p2), .val (.int p3)] [(.int c1)]))
  refine Go.on (fun t k => XS.iloadN X1.here hx rfl (hb hby d7_4) rfl k) ?_
  show Go p.tables e below s _ _ _ (T1.setTop (mkF m 5 #[.val (.ref a1), .val (.int p2), .val (.int p3)] [(.int p2), (.int c1)]))
  by_cases hc5_2 : p2 < c1
  · refine Go.on (fun t k => XS.icmpYes X1.here hx rfl (pc0 := 5) (pc' := 36) rfl (hb hby d7_5) rfl (tlt hc5_2).2.2.1 (by decide) (by decide) k) ?_
    show Go p.tables e below s _ _ _ (T1.setTop (mkF m 36 #[.val (.ref a1), .val (.int p2), .val (.int p3)] []))
    refine Go.on (fun t k => XS.iconst X1.here hx rfl (hb hby d7_36) k) ?_
    show Go p.tables e below s _ _ _ (T1.setTop (mkF m 37 #[.val (.ref a1), .val (.int p2), .val (.int p3)] [(.int (0 : Int32))]))
    refine Go.retN X1 hx hlk (t := .boolean) Bd.returns (by simp) (hb hby d7_37) (by decide) (by decide) e1 ?_
    exact ⟨(by rw [own_bf (by simp [hc5_2])]; rfl), N0, rfl⟩
  · refine Go.on (fun t k => XS.icmpNo X1.here hx rfl (hb hby d7_5) rfl (flt hc5_2).2.2.1 k) ?_
    show Go p.tables e below s _ _ _ (T1.setTop (mkF m 8 #[.val (.ref a1), .val (.int p2), .val (.int p3)] []))
    refine Go.on (fun t k => XS.iloadN X1.here hx rfl (hb hby d7_8) rfl k) ?_
    show Go p.tables e below s _ _ _ (T1.setTop (mkF m 9 #[.val (.ref a1), .val (.int p2), .val (.int p3)] [(.int p2)]))
    refine Go.on (fun t k => XS.aloadN X1.here hx rfl (hb hby d7_9) rfl rfl k) ?_
    show Go p.tables e below s _ _ _ (T1.setTop (mkF m 10 #[.val (.ref a1), .val (.int p2), .val (.int p3)] [(.ref a1), (.int p2)]))
    obtain ⟨T3, X3, e3, st3⟩ := getF X1 hx hZ hown (host := "") (Or.inl (hw _ (List.mem_of_getElem? (i := 25) rfl))) Via.refl e1 F_lastColumn_a1 (g := (mkF m 10 #[.val (.ref a1), .val (.int p2), .val (.int p3)] [(.ref a1), (.int p2)])) rfl rfl (hb hby d7_10)
    refine Go.on st3 ?_
    show Go p.tables e below s _ _ _ (T3.setTop (mkF m 13 #[.val (.ref a1), .val (.int p2), .val (.int p3)] [(.int c2), (.int p2)]))
    by_cases hc13_4 : c2 < p2
    · refine Go.on (fun t k => XS.icmpYes X3.here hx rfl (pc0 := 13) (pc' := 36) rfl (hb hby d7_13) rfl (tlt hc13_4).2.2.1 (by decide) (by decide) k) ?_
      show Go p.tables e below s _ _ _ (T3.setTop (mkF m 36 #[.val (.ref a1), .val (.int p2), .val (.int p3)] []))
      refine Go.on (fun t k => XS.iconst X3.here hx rfl (hb hby d7_36) k) ?_
      show Go p.tables e below s _ _ _ (T3.setTop (mkF m 37 #[.val (.ref a1), .val (.int p2), .val (.int p3)] [(.int (0 : Int32))]))
      refine Go.retN X3 hx hlk (t := .boolean) Bd.returns (by simp) (hb hby d7_37) (by decide) (by decide) e3 ?_
      exact ⟨(by rw [own_bf (by simp [hc5_2, hc13_4])]; rfl), N0, rfl⟩
    · refine Go.on (fun t k => XS.icmpNo X3.here hx rfl (hb hby d7_13) rfl (flt hc13_4).2.2.1 k) ?_
      show Go p.tables e below s _ _ _ (T3.setTop (mkF m 16 #[.val (.ref a1), .val (.int p2), .val (.int p3)] []))
      refine Go.on (fun t k => XS.aloadN X3.here hx rfl (hb hby d7_16) rfl rfl k) ?_
      show Go p.tables e below s _ _ _ (T3.setTop (mkF m 17 #[.val (.ref a1), .val (.int p2), .val (.int p3)] [(.ref a1)]))
      obtain ⟨T5, X5, e5, st5⟩ := getF X3 hx hZ hown (host := "") (Or.inl (hw _ (List.mem_of_getElem? (i := 23) rfl))) Via.refl e3 F_firstRow_a1 (g := (mkF m 17 #[.val (.ref a1), .val (.int p2), .val (.int p3)] [(.ref a1)])) rfl rfl (hb hby d7_17)
      refine Go.on st5 ?_
      show Go p.tables e below s _ _ _ (T5.setTop (mkF m 20 #[.val (.ref a1), .val (.int p2), .val (.int p3)] [(.int r1)]))
      refine Go.on (fun t k => XS.iloadN X5.here hx rfl (hb hby d7_20) rfl k) ?_
      show Go p.tables e below s _ _ _ (T5.setTop (mkF m 21 #[.val (.ref a1), .val (.int p2), .val (.int p3)] [(.int p3), (.int r1)]))
      by_cases hc21_6 : p3 < r1
      · refine Go.on (fun t k => XS.icmpYes X5.here hx rfl (pc0 := 21) (pc' := 36) rfl (hb hby d7_21) rfl (tlt hc21_6).2.2.1 (by decide) (by decide) k) ?_
        show Go p.tables e below s _ _ _ (T5.setTop (mkF m 36 #[.val (.ref a1), .val (.int p2), .val (.int p3)] []))
        refine Go.on (fun t k => XS.iconst X5.here hx rfl (hb hby d7_36) k) ?_
        show Go p.tables e below s _ _ _ (T5.setTop (mkF m 37 #[.val (.ref a1), .val (.int p2), .val (.int p3)] [(.int (0 : Int32))]))
        refine Go.retN X5 hx hlk (t := .boolean) Bd.returns (by simp) (hb hby d7_37) (by decide) (by decide) e5 ?_
        exact ⟨(by rw [own_bf (by simp [hc5_2, hc13_4, hc21_6])]; rfl), N0, rfl⟩
      · refine Go.on (fun t k => XS.icmpNo X5.here hx rfl (hb hby d7_21) rfl (flt hc21_6).2.2.1 k) ?_
        show Go p.tables e below s _ _ _ (T5.setTop (mkF m 24 #[.val (.ref a1), .val (.int p2), .val (.int p3)] []))
        refine Go.on (fun t k => XS.iloadN X5.here hx rfl (hb hby d7_24) rfl k) ?_
        show Go p.tables e below s _ _ _ (T5.setTop (mkF m 25 #[.val (.ref a1), .val (.int p2), .val (.int p3)] [(.int p3)]))
        refine Go.on (fun t k => XS.aloadN X5.here hx rfl (hb hby d7_25) rfl rfl k) ?_
        show Go p.tables e below s _ _ _ (T5.setTop (mkF m 26 #[.val (.ref a1), .val (.int p2), .val (.int p3)] [(.ref a1), (.int p3)]))
        obtain ⟨T7, X7, e7, st7⟩ := getF X5 hx hZ hown (host := "") (Or.inl (hw _ (List.mem_of_getElem? (i := 27) rfl))) Via.refl e5 F_lastRow_a1 (g := (mkF m 26 #[.val (.ref a1), .val (.int p2), .val (.int p3)] [(.ref a1), (.int p3)])) rfl rfl (hb hby d7_26)
        refine Go.on st7 ?_
        show Go p.tables e below s _ _ _ (T7.setTop (mkF m 29 #[.val (.ref a1), .val (.int p2), .val (.int p3)] [(.int r2), (.int p3)]))
        by_cases hc29_8 : r2 < p3
        · refine Go.on (fun t k => XS.icmpYes X7.here hx rfl (pc0 := 29) (pc' := 36) rfl (hb hby d7_29) rfl (tlt hc29_8).2.2.1 (by decide) (by decide) k) ?_
          show Go p.tables e below s _ _ _ (T7.setTop (mkF m 36 #[.val (.ref a1), .val (.int p2), .val (.int p3)] []))
          refine Go.on (fun t k => XS.iconst X7.here hx rfl (hb hby d7_36) k) ?_
          show Go p.tables e below s _ _ _ (T7.setTop (mkF m 37 #[.val (.ref a1), .val (.int p2), .val (.int p3)] [(.int (0 : Int32))]))
          refine Go.retN X7 hx hlk (t := .boolean) Bd.returns (by simp) (hb hby d7_37) (by decide) (by decide) e7 ?_
          exact ⟨(by rw [own_bf (by simp [hc5_2, hc13_4, hc21_6, hc29_8])]; rfl), N0, rfl⟩
        · refine Go.on (fun t k => XS.icmpNo X7.here hx rfl (hb hby d7_29) rfl (flt hc29_8).2.2.1 k) ?_
          show Go p.tables e below s _ _ _ (T7.setTop (mkF m 32 #[.val (.ref a1), .val (.int p2), .val (.int p3)] []))
          refine Go.on (fun t k => XS.iconst X7.here hx rfl (hb hby d7_32) k) ?_
          show Go p.tables e below s _ _ _ (T7.setTop (mkF m 33 #[.val (.ref a1), .val (.int p2), .val (.int p3)] [(.int (1 : Int32))]))
          refine Go.on (fun t k => XS.goto X7.here hx rfl (pc0 := 33) (pc' := 37) rfl (hb hby d7_33) (by decide) (by decide) k) ?_
          show Go p.tables e below s _ _ _ (T7.setTop (mkF m 37 #[.val (.ref a1), .val (.int p2), .val (.int p3)] [(.int (1 : Int32))]))
          refine Go.retN X7 hx hlk (t := .boolean) Bd.returns (by simp) (hb hby d7_37) (by decide) (by decide) e7 ?_
          exact ⟨(by rw [own_bt (by simp [hc5_2, hc13_4, hc21_6, hc29_8])]; rfl), N0, rfl⟩
theorem ef_0 (m : MethodId) (x0 : Int32) (x1 : Int32) (x2 : Int32) (x3 : Int32) (x4 : Int32) (x5 : Int32) : entryFrame m #[(.int x0), (.int x1), (.int x2), (.int x3), (.int x4), (.int x5)] maxLocals = mkF m 0 #[.val (.int x0), .val (.int x1), .val (.int x2), .val (.int x3), .val (.int x4), .val (.int x5), .unset, .unset, .unset, .unset, .unset, .unset] [] := by first | (simp [entryFrame, mkF, argsToLocals, Value.category, maxLocals]; done) | rfl
def Q0 (Z : State) (p1 : Int32) (p2 : Int32) (p3 : Int32) (p4 : Int32) (p5 : Int32) (p6 : Int32) (h0 : Heap) (n0 : Nat) (v : Option Value) (h : Heap) (L : List Loc) : Prop := v = some (.int (1 : Int32)) ∧ Fr n0 L
set_option maxRecDepth 65536 in
set_option maxHeartbeats 40000000 in
theorem rm0 (l : Launch) (Z : State) (a0 : Array Value) (hw : ∀ d ∈ tables_1, d.before a0 Z = true) (ws : List Jvm.Cond) (p1 : Int32) (p2 : Int32) (p3 : Int32) (p4 : Int32) (p5 : Int32) (p6 : Int32) (h0 : Heap) (n0 : Nat) (Z0 : n0 ≤ h0.size)  :
    MetFree l x (head1 (Jvm.Cond.code x code maxLocals ret :: ws) room_1) (fun a U => a = #[(.int p1), (.int p2), (.int p3), (.int p4), (.int p5), (.int p6)] ∧ Z.Warmed39 U.vm ∧ U.heap = h0) (fun _ _ _ _ _ => True) (fun _ U o U' => ∃ v L, o = .returned v ∧ Q0 Z p1 p2 p3 p4 p5 p6 h0 n0 v U'.heap L ∧ FrameEnd U o U' L room_1.cells room_1.slots) := by
  refine MetFree.of_bodySF (plainFor_of_name pn_com_example_gridshift_gridshift_CellRangeContainsPinLaw) hisR ?_
  intro p e s m args below meth c s₁ Bd hml0 hP hK
  obtain ⟨rfl, hZ, hh⟩ := hP
  have hx := Bd.exec
  have hby := Bd.bytes
  have hlk : meth.locks = false := BodyLoose.notSynchronized Bd
  have hml : c.maxLocals = 12 := hml0
  have hown : s.vm.findClass "com/example/gridshift/gridshift/CellRangeContainsPinLaw" = some m.cls := findClass_of_methodNamed Bd.named
  have hnm := (name_of_methodNamed Bd.named Bd.method).1
  have X0 : Stand p l e room_1 s m #[(.int p1), (.int p2), (.int p3), (.int p4), (.int p5), (.int p6)] below meth c s₁ [] 0 0 := Stand.of_body Bd
  have e0 : s₁.heap = h0 := by rw [← hh, Bd.state]; rfl
  have N0 := Fr.nil n0
  show Go p.tables e below s (Q0 Z p1 p2 p3 p4 p5 p6 h0 n0) room_1.cells room_1.slots (s₁.setTop (entryFrame m #[(.int p1), (.int p2), (.int p3), (.int p4), (.int p5), (.int p6)] maxLocals))
  refine Go.on (fun t k => castTop (ef_0 m p1 p2 p3 p4 p5 p6) k) ?_
  show Go p.tables e below s _ _ _ (s₁.setTop (mkF m 0 #[.val (.int p1), .val (.int p2), .val (.int p3), .val (.int p4), .val (.int p5), .val (.int p6), .unset, .unset, .unset, .unset, .unset, .unset] []))
  refine Go.on (fun t k => XS.iloadN X0.here hx rfl (hb hby at_0) rfl k) ?_
  show Go p.tables e below s _ _ _ (s₁.setTop (mkF m 1 #[.val (.int p1), .val (.int p2), .val (.int p3), .val (.int p4), .val (.int p5), .val (.int p6), .unset, .unset, .unset, .unset, .unset, .unset] [(.int p1)]))
  refine Go.on (fun t k => XS.iloadN X0.here hx rfl (hb hby at_1) rfl k) ?_
  show Go p.tables e below s _ _ _ (s₁.setTop (mkF m 2 #[.val (.int p1), .val (.int p2), .val (.int p3), .val (.int p4), .val (.int p5), .val (.int p6), .unset, .unset, .unset, .unset, .unset, .unset] [(.int p2), (.int p1)]))
  obtain ⟨_, _, ⟨T1, L1, k1, n1⟩, -, X1, ⟨Lc1, hQ1, l1, y1, z1⟩, st1⟩ := Jvm.LawKit.callS X0 hx (y := (⟨"java/lang/Math", "min", "(II)I"⟩ : MethodName)) hown (mvT hZ (hw _ (List.mem_of_getElem? (i := 0) rfl))) (mvT hZ (hw _ (List.mem_of_getElem? (i := 1) rfl))) (mvT hZ (hw _ (List.mem_of_getElem? (i := 2) rfl))) (mvT hZ (hw _ (List.mem_of_getElem? (i := 3) rfl))) (by decide) (backOf (W := 0) (rm1 l Z a0 hw [] p1 p2 h0 n0 Z0 ) hZ (hw _ (List.mem_of_getElem? (i := 3) rfl)) (hw _ (List.mem_of_getElem? (i := 2) rfl)) (by decide) (by decide)) (g := (mkF m 2 #[.val (.int p1), .val (.int p2), .val (.int p3), .val (.int p4), .val (.int p5), .val (.int p6), .unset, .unset, .unset, .unset, .unset, .unset] [(.int p2), (.int p1)])) rfl (by rw [hml]; rfl) (argsL := [(.int p1), (.int p2)]) (rest := []) (lenOf pd__40_II_41_I rfl) rfl (by show 2 * 0 + _ ≤ _; exact Nat.le_of_eq rfl) (hb hby at_2) (fun _ _ => ⟨rfl, e0, (by decide : 0 + 0 ≤ _), (by decide : 0 + 0 ≤ _)⟩)
  dsimp only [Pt.U, Pt.locs, Pt.cells, Pt.slots] at X1 l1 y1 z1 st1 hQ1
  subst l1 y1 z1
  obtain ⟨rfl, Nq1, e1⟩ := hQ1
  have Np2 := Fr.app N0 Nq1
  refine Go.on st1 ?_
  show Go p.tables e below s _ _ _ (T1.setTop (mkF m 5 #[.val (.int p1), .val (.int p2), .val (.int p3), .val (.int p4), .val (.int p5), .val (.int p6), .unset, .unset, .unset, .unset, .unset, .unset] [(.int (own_min p1 p2))]))
  refine Go.on (fun t k => XS.istore X1.here hx rfl (hb hby at_5) rfl (l' := #[.val (.int p1), .val (.int p2), .val (.int p3), .val (.int p4), .val (.int p5), .val (.int p6), .val (.int (own_min p1 p2)), .unset, .unset, .unset, .unset, .unset]) rfl k) ?_
  show Go p.tables e below s _ _ _ (T1.setTop (mkF m 7 #[.val (.int p1), .val (.int p2), .val (.int p3), .val (.int p4), .val (.int p5), .val (.int p6), .val (.int (own_min p1 p2)), .unset, .unset, .unset, .unset, .unset] []))
  refine Go.on (fun t k => XS.iloadN X1.here hx rfl (hb hby at_7) rfl k) ?_
  show Go p.tables e below s _ _ _ (T1.setTop (mkF m 8 #[.val (.int p1), .val (.int p2), .val (.int p3), .val (.int p4), .val (.int p5), .val (.int p6), .val (.int (own_min p1 p2)), .unset, .unset, .unset, .unset, .unset] [(.int p1)]))
  refine Go.on (fun t k => XS.iloadN X1.here hx rfl (hb hby at_8) rfl k) ?_
  show Go p.tables e below s _ _ _ (T1.setTop (mkF m 9 #[.val (.int p1), .val (.int p2), .val (.int p3), .val (.int p4), .val (.int p5), .val (.int p6), .val (.int (own_min p1 p2)), .unset, .unset, .unset, .unset, .unset] [(.int p2), (.int p1)]))
  obtain ⟨_, _, ⟨T3, L3, k3, n3⟩, -, X3, ⟨Lc3, hQ3, l3, y3, z3⟩, st3⟩ := Jvm.LawKit.callS X1 hx (y := (⟨"java/lang/Math", "max", "(II)I"⟩ : MethodName)) hown (mvT hZ (hw _ (List.mem_of_getElem? (i := 4) rfl))) (mvT hZ (hw _ (List.mem_of_getElem? (i := 5) rfl))) (mvT hZ (hw _ (List.mem_of_getElem? (i := 2) rfl))) (mvT hZ (hw _ (List.mem_of_getElem? (i := 6) rfl))) (by decide) (backOf (W := 0) (rm2 l Z a0 hw [] p1 p2 h0 n0 Z0 ) hZ (hw _ (List.mem_of_getElem? (i := 6) rfl)) (hw _ (List.mem_of_getElem? (i := 2) rfl)) (by decide) (by decide)) (g := (mkF m 9 #[.val (.int p1), .val (.int p2), .val (.int p3), .val (.int p4), .val (.int p5), .val (.int p6), .val (.int (own_min p1 p2)), .unset, .unset, .unset, .unset, .unset] [(.int p2), (.int p1)])) rfl (by rw [hml]; rfl) (argsL := [(.int p1), (.int p2)]) (rest := []) (lenOf pd__40_II_41_I rfl) rfl (by show 2 * 0 + _ ≤ _; exact Nat.le_of_eq rfl) (hb hby at_9) (fun _ _ => ⟨rfl, e1, (by decide : (0 + 0) + 0 ≤ _), (by decide : (0 + 0) + 0 ≤ _)⟩)
  dsimp only [Pt.U, Pt.locs, Pt.cells, Pt.slots] at X3 l3 y3 z3 st3 hQ3
  subst l3 y3 z3
  obtain ⟨rfl, Nq3, e3⟩ := hQ3
  have Np4 := Fr.app Np2 Nq3
  refine Go.on st3 ?_
  show Go p.tables e below s _ _ _ (T3.setTop (mkF m 12 #[.val (.int p1), .val (.int p2), .val (.int p3), .val (.int p4), .val (.int p5), .val (.int p6), .val (.int (own_min p1 p2)), .unset, .unset, .unset, .unset, .unset] [(.int (own_max p1 p2))]))
  refine Go.on (fun t k => XS.istore X3.here hx rfl (hb hby at_12) rfl (l' := #[.val (.int p1), .val (.int p2), .val (.int p3), .val (.int p4), .val (.int p5), .val (.int p6), .val (.int (own_min p1 p2)), .val (.int (own_max p1 p2)), .unset, .unset, .unset, .unset]) rfl k) ?_
  show Go p.tables e below s _ _ _ (T3.setTop (mkF m 14 #[.val (.int p1), .val (.int p2), .val (.int p3), .val (.int p4), .val (.int p5), .val (.int p6), .val (.int (own_min p1 p2)), .val (.int (own_max p1 p2)), .unset, .unset, .unset, .unset] []))
  refine Go.on (fun t k => XS.iloadN X3.here hx rfl (hb hby at_14) rfl k) ?_
  show Go p.tables e below s _ _ _ (T3.setTop (mkF m 15 #[.val (.int p1), .val (.int p2), .val (.int p3), .val (.int p4), .val (.int p5), .val (.int p6), .val (.int (own_min p1 p2)), .val (.int (own_max p1 p2)), .unset, .unset, .unset, .unset] [(.int p3)]))
  refine Go.on (fun t k => XS.iloadN X3.here hx rfl (hb hby at_15) rfl k) ?_
  show Go p.tables e below s _ _ _ (T3.setTop (mkF m 16 #[.val (.int p1), .val (.int p2), .val (.int p3), .val (.int p4), .val (.int p5), .val (.int p6), .val (.int (own_min p1 p2)), .val (.int (own_max p1 p2)), .unset, .unset, .unset, .unset] [(.int p4), (.int p3)]))
  obtain ⟨_, _, ⟨T5, L5, k5, n5⟩, -, X5, ⟨Lc5, hQ5, l5, y5, z5⟩, st5⟩ := Jvm.LawKit.callS X3 hx (y := (⟨"java/lang/Math", "min", "(II)I"⟩ : MethodName)) hown (mvT hZ (hw _ (List.mem_of_getElem? (i := 0) rfl))) (mvT hZ (hw _ (List.mem_of_getElem? (i := 1) rfl))) (mvT hZ (hw _ (List.mem_of_getElem? (i := 2) rfl))) (mvT hZ (hw _ (List.mem_of_getElem? (i := 3) rfl))) (by decide) (backOf (W := 0) (rm1 l Z a0 hw [] p3 p4 h0 n0 Z0 ) hZ (hw _ (List.mem_of_getElem? (i := 3) rfl)) (hw _ (List.mem_of_getElem? (i := 2) rfl)) (by decide) (by decide)) (g := (mkF m 16 #[.val (.int p1), .val (.int p2), .val (.int p3), .val (.int p4), .val (.int p5), .val (.int p6), .val (.int (own_min p1 p2)), .val (.int (own_max p1 p2)), .unset, .unset, .unset, .unset] [(.int p4), (.int p3)])) rfl (by rw [hml]; rfl) (argsL := [(.int p3), (.int p4)]) (rest := []) (lenOf pd__40_II_41_I rfl) rfl (by show 2 * 0 + _ ≤ _; exact Nat.le_of_eq rfl) (hb hby at_16) (fun _ _ => ⟨rfl, e3, (by decide : ((0 + 0) + 0) + 0 ≤ _), (by decide : ((0 + 0) + 0) + 0 ≤ _)⟩)
  dsimp only [Pt.U, Pt.locs, Pt.cells, Pt.slots] at X5 l5 y5 z5 st5 hQ5
  subst l5 y5 z5
  obtain ⟨rfl, Nq5, e5⟩ := hQ5
  have Np6 := Fr.app Np4 Nq5
  refine Go.on st5 ?_
  show Go p.tables e below s _ _ _ (T5.setTop (mkF m 19 #[.val (.int p1), .val (.int p2), .val (.int p3), .val (.int p4), .val (.int p5), .val (.int p6), .val (.int (own_min p1 p2)), .val (.int (own_max p1 p2)), .unset, .unset, .unset, .unset] [(.int (own_min p3 p4))]))
  refine Go.on (fun t k => XS.istore X5.here hx rfl (hb hby at_19) rfl (l' := #[.val (.int p1), .val (.int p2), .val (.int p3), .val (.int p4), .val (.int p5), .val (.int p6), .val (.int (own_min p1 p2)), .val (.int (own_max p1 p2)), .val (.int (own_min p3 p4)), .unset, .unset, .unset]) rfl k) ?_
  show Go p.tables e below s _ _ _ (T5.setTop (mkF m 21 #[.val (.int p1), .val (.int p2), .val (.int p3), .val (.int p4), .val (.int p5), .val (.int p6), .val (.int (own_min p1 p2)), .val (.int (own_max p1 p2)), .val (.int (own_min p3 p4)), .unset, .unset, .unset] []))
  refine Go.on (fun t k => XS.iloadN X5.here hx rfl (hb hby at_21) rfl k) ?_
  show Go p.tables e below s _ _ _ (T5.setTop (mkF m 22 #[.val (.int p1), .val (.int p2), .val (.int p3), .val (.int p4), .val (.int p5), .val (.int p6), .val (.int (own_min p1 p2)), .val (.int (own_max p1 p2)), .val (.int (own_min p3 p4)), .unset, .unset, .unset] [(.int p3)]))
  refine Go.on (fun t k => XS.iloadN X5.here hx rfl (hb hby at_22) rfl k) ?_
  show Go p.tables e below s _ _ _ (T5.setTop (mkF m 23 #[.val (.int p1), .val (.int p2), .val (.int p3), .val (.int p4), .val (.int p5), .val (.int p6), .val (.int (own_min p1 p2)), .val (.int (own_max p1 p2)), .val (.int (own_min p3 p4)), .unset, .unset, .unset] [(.int p4), (.int p3)]))
  obtain ⟨_, _, ⟨T7, L7, k7, n7⟩, -, X7, ⟨Lc7, hQ7, l7, y7, z7⟩, st7⟩ := Jvm.LawKit.callS X5 hx (y := (⟨"java/lang/Math", "max", "(II)I"⟩ : MethodName)) hown (mvT hZ (hw _ (List.mem_of_getElem? (i := 4) rfl))) (mvT hZ (hw _ (List.mem_of_getElem? (i := 5) rfl))) (mvT hZ (hw _ (List.mem_of_getElem? (i := 2) rfl))) (mvT hZ (hw _ (List.mem_of_getElem? (i := 6) rfl))) (by decide) (backOf (W := 0) (rm2 l Z a0 hw [] p3 p4 h0 n0 Z0 ) hZ (hw _ (List.mem_of_getElem? (i := 6) rfl)) (hw _ (List.mem_of_getElem? (i := 2) rfl)) (by decide) (by decide)) (g := (mkF m 23 #[.val (.int p1), .val (.int p2), .val (.int p3), .val (.int p4), .val (.int p5), .val (.int p6), .val (.int (own_min p1 p2)), .val (.int (own_max p1 p2)), .val (.int (own_min p3 p4)), .unset, .unset, .unset] [(.int p4), (.int p3)])) rfl (by rw [hml]; rfl) (argsL := [(.int p3), (.int p4)]) (rest := []) (lenOf pd__40_II_41_I rfl) rfl (by show 2 * 0 + _ ≤ _; exact Nat.le_of_eq rfl) (hb hby at_23) (fun _ _ => ⟨rfl, e5, (by decide : (((0 + 0) + 0) + 0) + 0 ≤ _), (by decide : (((0 + 0) + 0) + 0) + 0 ≤ _)⟩)
  dsimp only [Pt.U, Pt.locs, Pt.cells, Pt.slots] at X7 l7 y7 z7 st7 hQ7
  subst l7 y7 z7
  obtain ⟨rfl, Nq7, e7⟩ := hQ7
  have Np8 := Fr.app Np6 Nq7
  refine Go.on st7 ?_
  show Go p.tables e below s _ _ _ (T7.setTop (mkF m 26 #[.val (.int p1), .val (.int p2), .val (.int p3), .val (.int p4), .val (.int p5), .val (.int p6), .val (.int (own_min p1 p2)), .val (.int (own_max p1 p2)), .val (.int (own_min p3 p4)), .unset, .unset, .unset] [(.int (own_max p3 p4))]))
  refine Go.on (fun t k => XS.istore X7.here hx rfl (hb hby at_26) rfl (l' := #[.val (.int p1), .val (.int p2), .val (.int p3), .val (.int p4), .val (.int p5), .val (.int p6), .val (.int (own_min p1 p2)), .val (.int (own_max p1 p2)), .val (.int (own_min p3 p4)), .val (.int (own_max p3 p4)), .unset, .unset]) rfl k) ?_
  show Go p.tables e below s _ _ _ (T7.setTop (mkF m 28 #[.val (.int p1), .val (.int p2), .val (.int p3), .val (.int p4), .val (.int p5), .val (.int p6), .val (.int (own_min p1 p2)), .val (.int (own_max p1 p2)), .val (.int (own_min p3 p4)), .val (.int (own_max p3 p4)), .unset, .unset] []))
  obtain ⟨T9, h9, X9, e9, E9, A9, D9, -, st9⟩ := newO X7 hx hZ hown (hw _ (List.mem_of_getElem? (i := 7) rfl)) (hw _ (List.mem_of_getElem? (i := 8) rfl)) (hw _ (List.mem_of_getElem? (i := 9) rfl)) e7 (g := (mkF m 28 #[.val (.int p1), .val (.int p2), .val (.int p3), .val (.int p4), .val (.int p5), .val (.int p6), .val (.int (own_min p1 p2)), .val (.int (own_max p1 p2)), .val (.int (own_min p3 p4)), .val (.int (own_max p3 p4)), .unset, .unset] [])) rfl (hb hby at_28) (by decide) (by decide)
  obtain ⟨b9, g9⟩ : ∃ z, z = h0.size := ⟨_, rfl⟩
  rw [← g9] at A9 D9 st9
  have ge10 : n0 ≤ b9 := Nat.le_trans Z0 (Nat.le_of_eq g9.symm)
  have Zp12 := Nat.le_trans Z0 E9.1
  have FfirstColumn_13 : Fld Z h9 b9 "com/example/gridshift/gridshift/CellRange" "firstColumn" "I" (.int (0 : Int32)) := D9 (Or.inr (hw _ (List.mem_of_getElem? (i := 22) rfl))) (ty := .int) (by decide)
  have FfirstRow_14 : Fld Z h9 b9 "com/example/gridshift/gridshift/CellRange" "firstRow" "I" (.int (0 : Int32)) := D9 (Or.inr (hw _ (List.mem_of_getElem? (i := 24) rfl))) (ty := .int) (by decide)
  have FlastColumn_15 : Fld Z h9 b9 "com/example/gridshift/gridshift/CellRange" "lastColumn" "I" (.int (0 : Int32)) := D9 (Or.inr (hw _ (List.mem_of_getElem? (i := 26) rfl))) (ty := .int) (by decide)
  have FlastRow_16 : Fld Z h9 b9 "com/example/gridshift/gridshift/CellRange" "lastRow" "I" (.int (0 : Int32)) := D9 (Or.inr (hw _ (List.mem_of_getElem? (i := 28) rfl))) (ty := .int) (by decide)
  refine Go.on st9 ?_
  show Go p.tables e below s _ _ _ (T9.setTop (mkF m 31 #[.val (.int p1), .val (.int p2), .val (.int p3), .val (.int p4), .val (.int p5), .val (.int p6), .val (.int (own_min p1 p2)), .val (.int (own_max p1 p2)), .val (.int (own_min p3 p4)), .val (.int (own_max p3 p4)), .unset, .unset] [(.ref b9)]))
  refine Go.on (fun t k => XS.dup X9.here hx rfl (hb hby at_31) rfl rfl k) ?_
  show Go p.tables e below s _ _ _ (T9.setTop (mkF m 32 #[.val (.int p1), .val (.int p2), .val (.int p3), .val (.int p4), .val (.int p5), .val (.int p6), .val (.int (own_min p1 p2)), .val (.int (own_max p1 p2)), .val (.int (own_min p3 p4)), .val (.int (own_max p3 p4)), .unset, .unset] [(.ref b9), (.ref b9)]))
  refine Go.on (fun t k => XS.iload X9.here hx rfl (hb hby at_32) rfl k) ?_
  show Go p.tables e below s _ _ _ (T9.setTop (mkF m 34 #[.val (.int p1), .val (.int p2), .val (.int p3), .val (.int p4), .val (.int p5), .val (.int p6), .val (.int (own_min p1 p2)), .val (.int (own_max p1 p2)), .val (.int (own_min p3 p4)), .val (.int (own_max p3 p4)), .unset, .unset] [(.int (own_min p1 p2)), (.ref b9), (.ref b9)]))
  refine Go.on (fun t k => XS.iload X9.here hx rfl (hb hby at_34) rfl k) ?_
  show Go p.tables e below s _ _ _ (T9.setTop (mkF m 36 #[.val (.int p1), .val (.int p2), .val (.int p3), .val (.int p4), .val (.int p5), .val (.int p6), .val (.int (own_min p1 p2)), .val (.int (own_max p1 p2)), .val (.int (own_min p3 p4)), .val (.int (own_max p3 p4)), .unset, .unset] [(.int (own_min p3 p4)), (.int (own_min p1 p2)), (.ref b9), (.ref b9)]))
  refine Go.on (fun t k => XS.iload X9.here hx rfl (hb hby at_36) rfl k) ?_
  show Go p.tables e below s _ _ _ (T9.setTop (mkF m 38 #[.val (.int p1), .val (.int p2), .val (.int p3), .val (.int p4), .val (.int p5), .val (.int p6), .val (.int (own_min p1 p2)), .val (.int (own_max p1 p2)), .val (.int (own_min p3 p4)), .val (.int (own_max p3 p4)), .unset, .unset] [(.int (own_max p1 p2)), (.int (own_min p3 p4)), (.int (own_min p1 p2)), (.ref b9), (.ref b9)]))
  refine Go.on (fun t k => XS.iload X9.here hx rfl (hb hby at_38) rfl k) ?_
  show Go p.tables e below s _ _ _ (T9.setTop (mkF m 40 #[.val (.int p1), .val (.int p2), .val (.int p3), .val (.int p4), .val (.int p5), .val (.int p6), .val (.int (own_min p1 p2)), .val (.int (own_max p1 p2)), .val (.int (own_min p3 p4)), .val (.int (own_max p3 p4)), .unset, .unset] [(.int (own_max p3 p4)), (.int (own_max p1 p2)), (.int (own_min p3 p4)), (.int (own_min p1 p2)), (.ref b9), (.ref b9)]))
  obtain ⟨_, _, ⟨T17, L17, k17, n17⟩, -, X17, ⟨Lc17, hQ17, l17, y17, z17⟩, st17⟩ := X9.specialBack hx (y := (⟨"com/example/gridshift/gridshift/CellRange", "<init>", "(IIII)V"⟩ : MethodName)) rfl hown (mvT hZ (hw _ (List.mem_of_getElem? (i := 10) rfl))) (mvT hZ (hw _ (List.mem_of_getElem? (i := 11) rfl))) (mvT hZ (hw _ (List.mem_of_getElem? (i := 12) rfl))) (by decide) (backOf (W := 1) (rm3 l Z a0 hw [] b9 (own_min p1 p2) (own_min p3 p4) (own_max p1 p2) (own_max p3 p4) (.int (0 : Int32)) (.int (0 : Int32)) (.int (0 : Int32)) (.int (0 : Int32)) h9 n0 Zp12 A9 ge10 FfirstColumn_13 FfirstRow_14 FlastColumn_15 FlastRow_16) hZ (hw _ (List.mem_of_getElem? (i := 12) rfl)) (hw _ (List.mem_of_getElem? (i := 9) rfl)) (by decide) (by decide)) (g := (mkF m 40 #[.val (.int p1), .val (.int p2), .val (.int p3), .val (.int p4), .val (.int p5), .val (.int p6), .val (.int (own_min p1 p2)), .val (.int (own_max p1 p2)), .val (.int (own_min p3 p4)), .val (.int (own_max p3 p4)), .unset, .unset] [(.int (own_max p3 p4)), (.int (own_max p1 p2)), (.int (own_min p3 p4)), (.int (own_min p1 p2)), (.ref b9), (.ref b9)])) rfl (by rw [hml]; rfl) (Steps.refl _) (a := b9) (argsL := [(.int (own_min p1 p2)), (.int (own_min p3 p4)), (.int (own_max p1 p2)), (.int (own_max p3 p4))]) (rest := [(.ref b9)]) (lenOf pd__40_IIII_41_V rfl) rfl (by show 2 * 0 + _ ≤ _; exact Nat.le_of_eq rfl) (hb hby at_40) (fun _ _ => ⟨rfl, e9, (by decide : (((((0 + 0) + 0) + 0) + 0) + 1) + 0 ≤ _), (by decide : (((((0 + 0) + 0) + 0) + 0) + 4) + 0 ≤ _)⟩)
  dsimp only [Pt.U, Pt.locs, Pt.cells, Pt.slots] at X17 l17 y17 z17 st17 hQ17
  subst l17 y17 z17
  obtain ⟨rfl, Nq17, Kq17, P17_0, P17_1, P17_2, P17_3⟩ := hQ17
  have A9_18 := A9.keep Kq17
  have Zp19 := Nat.le_trans Zp12 Kq17.1
  have Np20 := Fr.app Np8 Nq17
  refine Go.via st17 ?_
  show Go p.tables e below s _ _ _ (T17.setTop (mkF m 43 #[.val (.int p1), .val (.int p2), .val (.int p3), .val (.int p4), .val (.int p5), .val (.int p6), .val (.int (own_min p1 p2)), .val (.int (own_max p1 p2)), .val (.int (own_min p3 p4)), .val (.int (own_max p3 p4)), .unset, .unset] [(.ref b9)]))
  refine Go.on (fun t k => XS.astore X17.here hx rfl (hb hby at_43) rfl rfl (l' := #[.val (.int p1), .val (.int p2), .val (.int p3), .val (.int p4), .val (.int p5), .val (.int p6), .val (.int (own_min p1 p2)), .val (.int (own_max p1 p2)), .val (.int (own_min p3 p4)), .val (.int (own_max p3 p4)), .val (.ref b9), .unset]) rfl k) ?_
  show Go p.tables e below s _ _ _ (T17.setTop (mkF m 45 #[.val (.int p1), .val (.int p2), .val (.int p3), .val (.int p4), .val (.int p5), .val (.int p6), .val (.int (own_min p1 p2)), .val (.int (own_max p1 p2)), .val (.int (own_min p3 p4)), .val (.int (own_max p3 p4)), .val (.ref b9), .unset] []))
  refine Go.on (fun t k => XS.iload X17.here hx rfl (hb hby at_45) rfl k) ?_
  show Go p.tables e below s _ _ _ (T17.setTop (mkF m 47 #[.val (.int p1), .val (.int p2), .val (.int p3), .val (.int p4), .val (.int p5), .val (.int p6), .val (.int (own_min p1 p2)), .val (.int (own_max p1 p2)), .val (.int (own_min p3 p4)), .val (.int (own_max p3 p4)), .val (.ref b9), .unset] [(.int (own_min p1 p2))]))
  refine Go.on (fun t k => XS.iload X17.here hx rfl (hb hby at_47) rfl k) ?_
  show Go p.tables e below s _ _ _ (T17.setTop (mkF m 49 #[.val (.int p1), .val (.int p2), .val (.int p3), .val (.int p4), .val (.int p5), .val (.int p6), .val (.int (own_min p1 p2)), .val (.int (own_max p1 p2)), .val (.int (own_min p3 p4)), .val (.int (own_max p3 p4)), .val (.ref b9), .unset] [(.int (own_max p1 p2)), (.int (own_min p1 p2))]))
  refine Go.on (fun t k => XS.iload X17.here hx rfl (hb hby at_49) rfl k) ?_
  show Go p.tables e below s _ _ _ (T17.setTop (mkF m 51 #[.val (.int p1), .val (.int p2), .val (.int p3), .val (.int p4), .val (.int p5), .val (.int p6), .val (.int (own_min p1 p2)), .val (.int (own_max p1 p2)), .val (.int (own_min p3 p4)), .val (.int (own_max p3 p4)), .val (.ref b9), .unset] [(.int p5), (.int (own_max p1 p2)), (.int (own_min p1 p2))]))
  obtain ⟨_, _, ⟨T21, L21, k21, n21⟩, -, X21, ⟨Lc21, hQ21, l21, y21, z21⟩, st21⟩ := Jvm.LawKit.callS X17 hx (y := (⟨"com/example/gridshift/gridshift/CellRangeContainsPinLaw", "clampKeeps", "(III)Z"⟩ : MethodName)) hown (mvT hZ (hw _ (List.mem_of_getElem? (i := 29) rfl))) (mvT hZ (hw _ (List.mem_of_getElem? (i := 30) rfl))) (mvT hZ (hw _ (List.mem_of_getElem? (i := 31) rfl))) (mvT hZ (hw _ (List.mem_of_getElem? (i := 32) rfl))) (by decide) (backOf (W := 0) (rm6 l Z a0 hw [] (own_min p1 p2) (own_max p1 p2) p5 T17.heap n0 Zp19 ) hZ (hw _ (List.mem_of_getElem? (i := 32) rfl)) (hw _ (List.mem_of_getElem? (i := 31) rfl)) (by decide) (by decide)) (g := (mkF m 51 #[.val (.int p1), .val (.int p2), .val (.int p3), .val (.int p4), .val (.int p5), .val (.int p6), .val (.int (own_min p1 p2)), .val (.int (own_max p1 p2)), .val (.int (own_min p3 p4)), .val (.int (own_max p3 p4)), .val (.ref b9), .unset] [(.int p5), (.int (own_max p1 p2)), (.int (own_min p1 p2))])) rfl (by rw [hml]; rfl) (argsL := [(.int (own_min p1 p2)), (.int (own_max p1 p2)), (.int p5)]) (rest := []) (lenOf pd__40_III_41_Z rfl) rfl (by show 2 * 0 + _ ≤ _; exact Nat.le_of_eq rfl) (hb hby at_51) (fun _ _ => ⟨rfl, rfl, (by decide : ((((((0 + 0) + 0) + 0) + 0) + 1) + 0) + 0 ≤ _), (by decide : ((((((0 + 0) + 0) + 0) + 0) + 4) + 0) + 0 ≤ _)⟩)
  dsimp only [Pt.U, Pt.locs, Pt.cells, Pt.slots] at X21 l21 y21 z21 st21 hQ21
  subst l21 y21 z21
  obtain ⟨rfl, Nq21, e21⟩ := hQ21
  have Np22 := Fr.app Np20 Nq21
  refine Go.on st21 ?_
  show Go p.tables e below s _ _ _ (T21.setTop (mkF m 54 #[.val (.int p1), .val (.int p2), .val (.int p3), .val (.int p4), .val (.int p5), .val (.int p6), .val (.int (own_min p1 p2)), .val (.int (own_max p1 p2)), .val (.int (own_min p3 p4)), .val (.int (own_max p3 p4)), .val (.ref b9), .unset] [(.int (own_b (own_max (own_min p1 p2) (own_min p5 (own_max p1 p2)) = p5)))]))
  by_cases hc54_23 : (own_b (own_max (own_min p1 p2) (own_min p5 (own_max p1 p2)) = p5)) = (0 : Int32)
  · refine Go.on (fun t k => XS.ifYes X21.here hx rfl (pc0 := 54) (pc' := 73) rfl (hb hby at_54) rfl ((if0 _ _).trans (teq hc54_23).1) (by decide) (by decide) k) ?_
    show Go p.tables e below s _ _ _ (T21.setTop (mkF m 73 #[.val (.int p1), .val (.int p2), .val (.int p3), .val (.int p4), .val (.int p5), .val (.int p6), .val (.int (own_min p1 p2)), .val (.int (own_max p1 p2)), .val (.int (own_min p3 p4)), .val (.int (own_max p3 p4)), .val (.ref b9), .unset] []))
    refine Go.on (fun t k => XS.iconst X21.here hx rfl (hb hby at_73) k) ?_
    show Go p.tables e below s _ _ _ (T21.setTop (mkF m 74 #[.val (.int p1), .val (.int p2), .val (.int p3), .val (.int p4), .val (.int p5), .val (.int p6), .val (.int (own_min p1 p2)), .val (.int (own_max p1 p2)), .val (.int (own_min p3 p4)), .val (.int (own_max p3 p4)), .val (.ref b9), .unset] [(.int (0 : Int32))]))
    refine Go.on (fun t k => XS.istore X21.here hx rfl (hb hby at_74) rfl (l' := #[.val (.int p1), .val (.int p2), .val (.int p3), .val (.int p4), .val (.int p5), .val (.int p6), .val (.int (own_min p1 p2)), .val (.int (own_max p1 p2)), .val (.int (own_min p3 p4)), .val (.int (own_max p3 p4)), .val (.ref b9), .val (.int (0 : Int32))]) rfl k) ?_
    show Go p.tables e below s _ _ _ (T21.setTop (mkF m 76 #[.val (.int p1), .val (.int p2), .val (.int p3), .val (.int p4), .val (.int p5), .val (.int p6), .val (.int (own_min p1 p2)), .val (.int (own_max p1 p2)), .val (.int (own_min p3 p4)), .val (.int (own_max p3 p4)), .val (.ref b9), .val (.int (0 : Int32))] []))
    refine Go.on (fun t k => XS.aload X21.here hx rfl (hb hby at_76) rfl rfl k) ?_
    show Go p.tables e below s _ _ _ (T21.setTop (mkF m 78 #[.val (.int p1), .val (.int p2), .val (.int p3), .val (.int p4), .val (.int p5), .val (.int p6), .val (.int (own_min p1 p2)), .val (.int (own_max p1 p2)), .val (.int (own_min p3 p4)), .val (.int (own_max p3 p4)), .val (.ref b9), .val (.int (0 : Int32))] [(.ref b9)]))
    refine Go.on (fun t k => XS.iload X21.here hx rfl (hb hby at_78) rfl k) ?_
    show Go p.tables e below s _ _ _ (T21.setTop (mkF m 80 #[.val (.int p1), .val (.int p2), .val (.int p3), .val (.int p4), .val (.int p5), .val (.int p6), .val (.int (own_min p1 p2)), .val (.int (own_max p1 p2)), .val (.int (own_min p3 p4)), .val (.int (own_max p3 p4)), .val (.ref b9), .val (.int (0 : Int32))] [(.int p5), (.ref b9)]))
    refine Go.on (fun t k => XS.iload X21.here hx rfl (hb hby at_80) rfl k) ?_
    show Go p.tables e below s _ _ _ (T21.setTop (mkF m 82 #[.val (.int p1), .val (.int p2), .val (.int p3), .val (.int p4), .val (.int p5), .val (.int p6), .val (.int (own_min p1 p2)), .val (.int (own_max p1 p2)), .val (.int (own_min p3 p4)), .val (.int (own_max p3 p4)), .val (.ref b9), .val (.int (0 : Int32))] [(.int p6), (.int p5), (.ref b9)]))
    obtain ⟨cq24, kq24, q24a, q24b, q24c⟩ := isOf hZ e21 A9_18
    obtain ⟨_, _, ⟨T24, L24, k24, n24⟩, -, X24, ⟨Lc24, hQ24, l24, y24, z24⟩, st24⟩ := X21.virtualBack hx (y := (⟨"com/example/gridshift/gridshift/CellRange", "contains", "(II)Z"⟩ : MethodName)) (z := (⟨"com/example/gridshift/gridshift/CellRange", "contains", "(II)Z"⟩ : MethodName)) hown (mvT hZ (hw _ (List.mem_of_getElem? (i := 33) rfl))) (mvT hZ (hw _ (List.mem_of_getElem? (i := 34) rfl))) (notFace_of_selects (args := #[]) (mvT hZ (hw _ (List.mem_of_getElem? (i := 36) rfl)))) (mvT hZ (hw _ (List.mem_of_getElem? (i := 36) rfl))) (mvT hZ (hw _ (List.mem_of_getElem? (i := 35) rfl))) (by decide) (backOf (W := 0) (rm7 l Z a0 hw [] b9 p5 p6 (own_min p1 p2) (own_min p3 p4) (own_max p1 p2) (own_max p3 p4) T17.heap n0 Zp19 P17_0 P17_1 P17_2 P17_3) hZ (hw _ (List.mem_of_getElem? (i := 37) rfl)) (hw _ (List.mem_of_getElem? (i := 9) rfl)) (by decide) (by decide)) q24a q24c (g := (mkF m 82 #[.val (.int p1), .val (.int p2), .val (.int p3), .val (.int p4), .val (.int p5), .val (.int p6), .val (.int (own_min p1 p2)), .val (.int (own_max p1 p2)), .val (.int (own_min p3 p4)), .val (.int (own_max p3 p4)), .val (.ref b9), .val (.int (0 : Int32))] [(.int p6), (.int p5), (.ref b9)])) rfl (by rw [hml]; rfl) (Steps.refl _) (argsL := [(.int p5), (.int p6)]) (rest := []) (lenOf pd__40_II_41_Z rfl) rfl (by show 2 * 0 + _ ≤ _; exact Nat.le_of_eq rfl) (hb hby at_82) (fun _ _ => ⟨rfl, e21, (by decide : (((((((0 + 0) + 0) + 0) + 0) + 1) + 0) + 0) + 0 ≤ _), (by decide : (((((((0 + 0) + 0) + 0) + 0) + 4) + 0) + 0) + 0 ≤ _)⟩)
    dsimp only [Pt.U, Pt.locs, Pt.cells, Pt.slots] at X24 l24 y24 z24 st24 hQ24
    subst l24 y24 z24
    obtain ⟨rfl, Nq24, e24⟩ := hQ24
    have Np25 := Fr.app Np22 Nq24
    refine Go.via st24 ?_
    show Go p.tables e below s _ _ _ (T24.setTop (mkF m 85 #[.val (.int p1), .val (.int p2), .val (.int p3), .val (.int p4), .val (.int p5), .val (.int p6), .val (.int (own_min p1 p2)), .val (.int (own_max p1 p2)), .val (.int (own_min p3 p4)), .val (.int (own_max p3 p4)), .val (.ref b9), .val (.int (0 : Int32))] [(.int (own_b (¬ p5 < (own_min p1 p2) ∧ ¬ (own_max p1 p2) < p5 ∧ ¬ p6 < (own_min p3 p4) ∧ ¬ (own_max p3 p4) < p6)))]))
    refine Go.on (fun t k => XS.iload X24.here hx rfl (hb hby at_85) rfl k) ?_
    show Go p.tables e below s _ _ _ (T24.setTop (mkF m 87 #[.val (.int p1), .val (.int p2), .val (.int p3), .val (.int p4), .val (.int p5), .val (.int p6), .val (.int (own_min p1 p2)), .val (.int (own_max p1 p2)), .val (.int (own_min p3 p4)), .val (.int (own_max p3 p4)), .val (.ref b9), .val (.int (0 : Int32))] [(.int (0 : Int32)), (.int (own_b (¬ p5 < (own_min p1 p2) ∧ ¬ (own_max p1 p2) < p5 ∧ ¬ p6 < (own_min p3 p4) ∧ ¬ (own_max p3 p4) < p6)))]))
    refine Go.on (fun t k => XS.icmpNo X24.here hx rfl (hb hby at_87) rfl (teq (own_bf fun q => own_b0 hc54_23 ((own_clamp _ _ _).mpr ⟨q.1, q.2.1⟩))).2 k) ?_
    show Go p.tables e below s _ _ _ (T24.setTop (mkF m 90 #[.val (.int p1), .val (.int p2), .val (.int p3), .val (.int p4), .val (.int p5), .val (.int p6), .val (.int (own_min p1 p2)), .val (.int (own_max p1 p2)), .val (.int (own_min p3 p4)), .val (.int (own_max p3 p4)), .val (.ref b9), .val (.int (0 : Int32))] []))
    refine Go.on (fun t k => XS.iconst X24.here hx rfl (hb hby at_90) k) ?_
    show Go p.tables e below s _ _ _ (T24.setTop (mkF m 91 #[.val (.int p1), .val (.int p2), .val (.int p3), .val (.int p4), .val (.int p5), .val (.int p6), .val (.int (own_min p1 p2)), .val (.int (own_max p1 p2)), .val (.int (own_min p3 p4)), .val (.int (own_max p3 p4)), .val (.ref b9), .val (.int (0 : Int32))] [(.int (1 : Int32))]))
    refine Go.on (fun t k => XS.goto X24.here hx rfl (pc0 := 91) (pc' := 95) rfl (hb hby at_91) (by decide) (by decide) k) ?_
    show Go p.tables e below s _ _ _ (T24.setTop (mkF m 95 #[.val (.int p1), .val (.int p2), .val (.int p3), .val (.int p4), .val (.int p5), .val (.int p6), .val (.int (own_min p1 p2)), .val (.int (own_max p1 p2)), .val (.int (own_min p3 p4)), .val (.int (own_max p3 p4)), .val (.ref b9), .val (.int (0 : Int32))] [(.int (1 : Int32))]))
    refine Go.retN X24 hx hlk (t := .boolean) Bd.returns (by simp) (hb hby at_95) (by decide) (by decide) e24 ?_
    exact ⟨rfl, Np25⟩
  · refine Go.on (fun t k => XS.ifNo X21.here hx rfl (hb hby at_54) rfl ((if0 _ _).trans (feq hc54_23).1) k) ?_
    show Go p.tables e below s _ _ _ (T21.setTop (mkF m 57 #[.val (.int p1), .val (.int p2), .val (.int p3), .val (.int p4), .val (.int p5), .val (.int p6), .val (.int (own_min p1 p2)), .val (.int (own_max p1 p2)), .val (.int (own_min p3 p4)), .val (.int (own_max p3 p4)), .val (.ref b9), .unset] []))
    refine Go.on (fun t k => XS.iload X21.here hx rfl (hb hby at_57) rfl k) ?_
    show Go p.tables e below s _ _ _ (T21.setTop (mkF m 59 #[.val (.int p1), .val (.int p2), .val (.int p3), .val (.int p4), .val (.int p5), .val (.int p6), .val (.int (own_min p1 p2)), .val (.int (own_max p1 p2)), .val (.int (own_min p3 p4)), .val (.int (own_max p3 p4)), .val (.ref b9), .unset] [(.int (own_min p3 p4))]))
    refine Go.on (fun t k => XS.iload X21.here hx rfl (hb hby at_59) rfl k) ?_
    show Go p.tables e below s _ _ _ (T21.setTop (mkF m 61 #[.val (.int p1), .val (.int p2), .val (.int p3), .val (.int p4), .val (.int p5), .val (.int p6), .val (.int (own_min p1 p2)), .val (.int (own_max p1 p2)), .val (.int (own_min p3 p4)), .val (.int (own_max p3 p4)), .val (.ref b9), .unset] [(.int (own_max p3 p4)), (.int (own_min p3 p4))]))
    refine Go.on (fun t k => XS.iload X21.here hx rfl (hb hby at_61) rfl k) ?_
    show Go p.tables e below s _ _ _ (T21.setTop (mkF m 63 #[.val (.int p1), .val (.int p2), .val (.int p3), .val (.int p4), .val (.int p5), .val (.int p6), .val (.int (own_min p1 p2)), .val (.int (own_max p1 p2)), .val (.int (own_min p3 p4)), .val (.int (own_max p3 p4)), .val (.ref b9), .unset] [(.int p6), (.int (own_max p3 p4)), (.int (own_min p3 p4))]))
    obtain ⟨_, _, ⟨T26, L26, k26, n26⟩, -, X26, ⟨Lc26, hQ26, l26, y26, z26⟩, st26⟩ := Jvm.LawKit.callS X21 hx (y := (⟨"com/example/gridshift/gridshift/CellRangeContainsPinLaw", "clampKeeps", "(III)Z"⟩ : MethodName)) hown (mvT hZ (hw _ (List.mem_of_getElem? (i := 29) rfl))) (mvT hZ (hw _ (List.mem_of_getElem? (i := 30) rfl))) (mvT hZ (hw _ (List.mem_of_getElem? (i := 31) rfl))) (mvT hZ (hw _ (List.mem_of_getElem? (i := 32) rfl))) (by decide) (backOf (W := 0) (rm6 l Z a0 hw [] (own_min p3 p4) (own_max p3 p4) p6 T17.heap n0 Zp19 ) hZ (hw _ (List.mem_of_getElem? (i := 32) rfl)) (hw _ (List.mem_of_getElem? (i := 31) rfl)) (by decide) (by decide)) (g := (mkF m 63 #[.val (.int p1), .val (.int p2), .val (.int p3), .val (.int p4), .val (.int p5), .val (.int p6), .val (.int (own_min p1 p2)), .val (.int (own_max p1 p2)), .val (.int (own_min p3 p4)), .val (.int (own_max p3 p4)), .val (.ref b9), .unset] [(.int p6), (.int (own_max p3 p4)), (.int (own_min p3 p4))])) rfl (by rw [hml]; rfl) (argsL := [(.int (own_min p3 p4)), (.int (own_max p3 p4)), (.int p6)]) (rest := []) (lenOf pd__40_III_41_Z rfl) rfl (by show 2 * 0 + _ ≤ _; exact Nat.le_of_eq rfl) (hb hby at_63) (fun _ _ => ⟨rfl, e21, (by decide : (((((((0 + 0) + 0) + 0) + 0) + 1) + 0) + 0) + 0 ≤ _), (by decide : (((((((0 + 0) + 0) + 0) + 0) + 4) + 0) + 0) + 0 ≤ _)⟩)
    dsimp only [Pt.U, Pt.locs, Pt.cells, Pt.slots] at X26 l26 y26 z26 st26 hQ26
    subst l26 y26 z26
    obtain ⟨rfl, Nq26, e26⟩ := hQ26
    have Np27 := Fr.app Np22 Nq26
    refine Go.on st26 ?_
    show Go p.tables e below s _ _ _ (T26.setTop (mkF m 66 #[.val (.int p1), .val (.int p2), .val (.int p3), .val (.int p4), .val (.int p5), .val (.int p6), .val (.int (own_min p1 p2)), .val (.int (own_max p1 p2)), .val (.int (own_min p3 p4)), .val (.int (own_max p3 p4)), .val (.ref b9), .unset] [(.int (own_b (own_max (own_min p3 p4) (own_min p6 (own_max p3 p4)) = p6)))]))
    by_cases hc66_28 : (own_b (own_max (own_min p3 p4) (own_min p6 (own_max p3 p4)) = p6)) = (0 : Int32)
    · refine Go.on (fun t k => XS.ifYes X26.here hx rfl (pc0 := 66) (pc' := 73) rfl (hb hby at_66) rfl ((if0 _ _).trans (teq hc66_28).1) (by decide) (by decide) k) ?_
      show Go p.tables e below s _ _ _ (T26.setTop (mkF m 73 #[.val (.int p1), .val (.int p2), .val (.int p3), .val (.int p4), .val (.int p5), .val (.int p6), .val (.int (own_min p1 p2)), .val (.int (own_max p1 p2)), .val (.int (own_min p3 p4)), .val (.int (own_max p3 p4)), .val (.ref b9), .unset] []))
      refine Go.on (fun t k => XS.iconst X26.here hx rfl (hb hby at_73) k) ?_
      show Go p.tables e below s _ _ _ (T26.setTop (mkF m 74 #[.val (.int p1), .val (.int p2), .val (.int p3), .val (.int p4), .val (.int p5), .val (.int p6), .val (.int (own_min p1 p2)), .val (.int (own_max p1 p2)), .val (.int (own_min p3 p4)), .val (.int (own_max p3 p4)), .val (.ref b9), .unset] [(.int (0 : Int32))]))
      refine Go.on (fun t k => XS.istore X26.here hx rfl (hb hby at_74) rfl (l' := #[.val (.int p1), .val (.int p2), .val (.int p3), .val (.int p4), .val (.int p5), .val (.int p6), .val (.int (own_min p1 p2)), .val (.int (own_max p1 p2)), .val (.int (own_min p3 p4)), .val (.int (own_max p3 p4)), .val (.ref b9), .val (.int (0 : Int32))]) rfl k) ?_
      show Go p.tables e below s _ _ _ (T26.setTop (mkF m 76 #[.val (.int p1), .val (.int p2), .val (.int p3), .val (.int p4), .val (.int p5), .val (.int p6), .val (.int (own_min p1 p2)), .val (.int (own_max p1 p2)), .val (.int (own_min p3 p4)), .val (.int (own_max p3 p4)), .val (.ref b9), .val (.int (0 : Int32))] []))
      refine Go.on (fun t k => XS.aload X26.here hx rfl (hb hby at_76) rfl rfl k) ?_
      show Go p.tables e below s _ _ _ (T26.setTop (mkF m 78 #[.val (.int p1), .val (.int p2), .val (.int p3), .val (.int p4), .val (.int p5), .val (.int p6), .val (.int (own_min p1 p2)), .val (.int (own_max p1 p2)), .val (.int (own_min p3 p4)), .val (.int (own_max p3 p4)), .val (.ref b9), .val (.int (0 : Int32))] [(.ref b9)]))
      refine Go.on (fun t k => XS.iload X26.here hx rfl (hb hby at_78) rfl k) ?_
      show Go p.tables e below s _ _ _ (T26.setTop (mkF m 80 #[.val (.int p1), .val (.int p2), .val (.int p3), .val (.int p4), .val (.int p5), .val (.int p6), .val (.int (own_min p1 p2)), .val (.int (own_max p1 p2)), .val (.int (own_min p3 p4)), .val (.int (own_max p3 p4)), .val (.ref b9), .val (.int (0 : Int32))] [(.int p5), (.ref b9)]))
      refine Go.on (fun t k => XS.iload X26.here hx rfl (hb hby at_80) rfl k) ?_
      show Go p.tables e below s _ _ _ (T26.setTop (mkF m 82 #[.val (.int p1), .val (.int p2), .val (.int p3), .val (.int p4), .val (.int p5), .val (.int p6), .val (.int (own_min p1 p2)), .val (.int (own_max p1 p2)), .val (.int (own_min p3 p4)), .val (.int (own_max p3 p4)), .val (.ref b9), .val (.int (0 : Int32))] [(.int p6), (.int p5), (.ref b9)]))
      obtain ⟨cq29, kq29, q29a, q29b, q29c⟩ := isOf hZ e26 A9_18
      obtain ⟨_, _, ⟨T29, L29, k29, n29⟩, -, X29, ⟨Lc29, hQ29, l29, y29, z29⟩, st29⟩ := X26.virtualBack hx (y := (⟨"com/example/gridshift/gridshift/CellRange", "contains", "(II)Z"⟩ : MethodName)) (z := (⟨"com/example/gridshift/gridshift/CellRange", "contains", "(II)Z"⟩ : MethodName)) hown (mvT hZ (hw _ (List.mem_of_getElem? (i := 33) rfl))) (mvT hZ (hw _ (List.mem_of_getElem? (i := 34) rfl))) (notFace_of_selects (args := #[]) (mvT hZ (hw _ (List.mem_of_getElem? (i := 36) rfl)))) (mvT hZ (hw _ (List.mem_of_getElem? (i := 36) rfl))) (mvT hZ (hw _ (List.mem_of_getElem? (i := 35) rfl))) (by decide) (backOf (W := 0) (rm7 l Z a0 hw [] b9 p5 p6 (own_min p1 p2) (own_min p3 p4) (own_max p1 p2) (own_max p3 p4) T17.heap n0 Zp19 P17_0 P17_1 P17_2 P17_3) hZ (hw _ (List.mem_of_getElem? (i := 37) rfl)) (hw _ (List.mem_of_getElem? (i := 9) rfl)) (by decide) (by decide)) q29a q29c (g := (mkF m 82 #[.val (.int p1), .val (.int p2), .val (.int p3), .val (.int p4), .val (.int p5), .val (.int p6), .val (.int (own_min p1 p2)), .val (.int (own_max p1 p2)), .val (.int (own_min p3 p4)), .val (.int (own_max p3 p4)), .val (.ref b9), .val (.int (0 : Int32))] [(.int p6), (.int p5), (.ref b9)])) rfl (by rw [hml]; rfl) (Steps.refl _) (argsL := [(.int p5), (.int p6)]) (rest := []) (lenOf pd__40_II_41_Z rfl) rfl (by show 2 * 0 + _ ≤ _; exact Nat.le_of_eq rfl) (hb hby at_82) (fun _ _ => ⟨rfl, e26, (by decide : ((((((((0 + 0) + 0) + 0) + 0) + 1) + 0) + 0) + 0) + 0 ≤ _), (by decide : ((((((((0 + 0) + 0) + 0) + 0) + 4) + 0) + 0) + 0) + 0 ≤ _)⟩)
      dsimp only [Pt.U, Pt.locs, Pt.cells, Pt.slots] at X29 l29 y29 z29 st29 hQ29
      subst l29 y29 z29
      obtain ⟨rfl, Nq29, e29⟩ := hQ29
      have Np30 := Fr.app Np27 Nq29
      refine Go.via st29 ?_
      show Go p.tables e below s _ _ _ (T29.setTop (mkF m 85 #[.val (.int p1), .val (.int p2), .val (.int p3), .val (.int p4), .val (.int p5), .val (.int p6), .val (.int (own_min p1 p2)), .val (.int (own_max p1 p2)), .val (.int (own_min p3 p4)), .val (.int (own_max p3 p4)), .val (.ref b9), .val (.int (0 : Int32))] [(.int (own_b (¬ p5 < (own_min p1 p2) ∧ ¬ (own_max p1 p2) < p5 ∧ ¬ p6 < (own_min p3 p4) ∧ ¬ (own_max p3 p4) < p6)))]))
      refine Go.on (fun t k => XS.iload X29.here hx rfl (hb hby at_85) rfl k) ?_
      show Go p.tables e below s _ _ _ (T29.setTop (mkF m 87 #[.val (.int p1), .val (.int p2), .val (.int p3), .val (.int p4), .val (.int p5), .val (.int p6), .val (.int (own_min p1 p2)), .val (.int (own_max p1 p2)), .val (.int (own_min p3 p4)), .val (.int (own_max p3 p4)), .val (.ref b9), .val (.int (0 : Int32))] [(.int (0 : Int32)), (.int (own_b (¬ p5 < (own_min p1 p2) ∧ ¬ (own_max p1 p2) < p5 ∧ ¬ p6 < (own_min p3 p4) ∧ ¬ (own_max p3 p4) < p6)))]))
      refine Go.on (fun t k => XS.icmpNo X29.here hx rfl (hb hby at_87) rfl (teq (own_bf fun q => own_b0 hc66_28 ((own_clamp _ _ _).mpr ⟨q.2.2.1, q.2.2.2⟩))).2 k) ?_
      show Go p.tables e below s _ _ _ (T29.setTop (mkF m 90 #[.val (.int p1), .val (.int p2), .val (.int p3), .val (.int p4), .val (.int p5), .val (.int p6), .val (.int (own_min p1 p2)), .val (.int (own_max p1 p2)), .val (.int (own_min p3 p4)), .val (.int (own_max p3 p4)), .val (.ref b9), .val (.int (0 : Int32))] []))
      refine Go.on (fun t k => XS.iconst X29.here hx rfl (hb hby at_90) k) ?_
      show Go p.tables e below s _ _ _ (T29.setTop (mkF m 91 #[.val (.int p1), .val (.int p2), .val (.int p3), .val (.int p4), .val (.int p5), .val (.int p6), .val (.int (own_min p1 p2)), .val (.int (own_max p1 p2)), .val (.int (own_min p3 p4)), .val (.int (own_max p3 p4)), .val (.ref b9), .val (.int (0 : Int32))] [(.int (1 : Int32))]))
      refine Go.on (fun t k => XS.goto X29.here hx rfl (pc0 := 91) (pc' := 95) rfl (hb hby at_91) (by decide) (by decide) k) ?_
      show Go p.tables e below s _ _ _ (T29.setTop (mkF m 95 #[.val (.int p1), .val (.int p2), .val (.int p3), .val (.int p4), .val (.int p5), .val (.int p6), .val (.int (own_min p1 p2)), .val (.int (own_max p1 p2)), .val (.int (own_min p3 p4)), .val (.int (own_max p3 p4)), .val (.ref b9), .val (.int (0 : Int32))] [(.int (1 : Int32))]))
      refine Go.retN X29 hx hlk (t := .boolean) Bd.returns (by simp) (hb hby at_95) (by decide) (by decide) e29 ?_
      exact ⟨rfl, Np30⟩
    · refine Go.on (fun t k => XS.ifNo X26.here hx rfl (hb hby at_66) rfl ((if0 _ _).trans (feq hc66_28).1) k) ?_
      show Go p.tables e below s _ _ _ (T26.setTop (mkF m 69 #[.val (.int p1), .val (.int p2), .val (.int p3), .val (.int p4), .val (.int p5), .val (.int p6), .val (.int (own_min p1 p2)), .val (.int (own_max p1 p2)), .val (.int (own_min p3 p4)), .val (.int (own_max p3 p4)), .val (.ref b9), .unset] []))
      refine Go.on (fun t k => XS.iconst X26.here hx rfl (hb hby at_69) k) ?_
      show Go p.tables e below s _ _ _ (T26.setTop (mkF m 70 #[.val (.int p1), .val (.int p2), .val (.int p3), .val (.int p4), .val (.int p5), .val (.int p6), .val (.int (own_min p1 p2)), .val (.int (own_max p1 p2)), .val (.int (own_min p3 p4)), .val (.int (own_max p3 p4)), .val (.ref b9), .unset] [(.int (1 : Int32))]))
      refine Go.on (fun t k => XS.goto X26.here hx rfl (pc0 := 70) (pc' := 74) rfl (hb hby at_70) (by decide) (by decide) k) ?_
      show Go p.tables e below s _ _ _ (T26.setTop (mkF m 74 #[.val (.int p1), .val (.int p2), .val (.int p3), .val (.int p4), .val (.int p5), .val (.int p6), .val (.int (own_min p1 p2)), .val (.int (own_max p1 p2)), .val (.int (own_min p3 p4)), .val (.int (own_max p3 p4)), .val (.ref b9), .unset] [(.int (1 : Int32))]))
      refine Go.on (fun t k => XS.istore X26.here hx rfl (hb hby at_74) rfl (l' := #[.val (.int p1), .val (.int p2), .val (.int p3), .val (.int p4), .val (.int p5), .val (.int p6), .val (.int (own_min p1 p2)), .val (.int (own_max p1 p2)), .val (.int (own_min p3 p4)), .val (.int (own_max p3 p4)), .val (.ref b9), .val (.int (1 : Int32))]) rfl k) ?_
      show Go p.tables e below s _ _ _ (T26.setTop (mkF m 76 #[.val (.int p1), .val (.int p2), .val (.int p3), .val (.int p4), .val (.int p5), .val (.int p6), .val (.int (own_min p1 p2)), .val (.int (own_max p1 p2)), .val (.int (own_min p3 p4)), .val (.int (own_max p3 p4)), .val (.ref b9), .val (.int (1 : Int32))] []))
      refine Go.on (fun t k => XS.aload X26.here hx rfl (hb hby at_76) rfl rfl k) ?_
      show Go p.tables e below s _ _ _ (T26.setTop (mkF m 78 #[.val (.int p1), .val (.int p2), .val (.int p3), .val (.int p4), .val (.int p5), .val (.int p6), .val (.int (own_min p1 p2)), .val (.int (own_max p1 p2)), .val (.int (own_min p3 p4)), .val (.int (own_max p3 p4)), .val (.ref b9), .val (.int (1 : Int32))] [(.ref b9)]))
      refine Go.on (fun t k => XS.iload X26.here hx rfl (hb hby at_78) rfl k) ?_
      show Go p.tables e below s _ _ _ (T26.setTop (mkF m 80 #[.val (.int p1), .val (.int p2), .val (.int p3), .val (.int p4), .val (.int p5), .val (.int p6), .val (.int (own_min p1 p2)), .val (.int (own_max p1 p2)), .val (.int (own_min p3 p4)), .val (.int (own_max p3 p4)), .val (.ref b9), .val (.int (1 : Int32))] [(.int p5), (.ref b9)]))
      refine Go.on (fun t k => XS.iload X26.here hx rfl (hb hby at_80) rfl k) ?_
      show Go p.tables e below s _ _ _ (T26.setTop (mkF m 82 #[.val (.int p1), .val (.int p2), .val (.int p3), .val (.int p4), .val (.int p5), .val (.int p6), .val (.int (own_min p1 p2)), .val (.int (own_max p1 p2)), .val (.int (own_min p3 p4)), .val (.int (own_max p3 p4)), .val (.ref b9), .val (.int (1 : Int32))] [(.int p6), (.int p5), (.ref b9)]))
      obtain ⟨cq31, kq31, q31a, q31b, q31c⟩ := isOf hZ e26 A9_18
      obtain ⟨_, _, ⟨T31, L31, k31, n31⟩, -, X31, ⟨Lc31, hQ31, l31, y31, z31⟩, st31⟩ := X26.virtualBack hx (y := (⟨"com/example/gridshift/gridshift/CellRange", "contains", "(II)Z"⟩ : MethodName)) (z := (⟨"com/example/gridshift/gridshift/CellRange", "contains", "(II)Z"⟩ : MethodName)) hown (mvT hZ (hw _ (List.mem_of_getElem? (i := 33) rfl))) (mvT hZ (hw _ (List.mem_of_getElem? (i := 34) rfl))) (notFace_of_selects (args := #[]) (mvT hZ (hw _ (List.mem_of_getElem? (i := 36) rfl)))) (mvT hZ (hw _ (List.mem_of_getElem? (i := 36) rfl))) (mvT hZ (hw _ (List.mem_of_getElem? (i := 35) rfl))) (by decide) (backOf (W := 0) (rm7 l Z a0 hw [] b9 p5 p6 (own_min p1 p2) (own_min p3 p4) (own_max p1 p2) (own_max p3 p4) T17.heap n0 Zp19 P17_0 P17_1 P17_2 P17_3) hZ (hw _ (List.mem_of_getElem? (i := 37) rfl)) (hw _ (List.mem_of_getElem? (i := 9) rfl)) (by decide) (by decide)) q31a q31c (g := (mkF m 82 #[.val (.int p1), .val (.int p2), .val (.int p3), .val (.int p4), .val (.int p5), .val (.int p6), .val (.int (own_min p1 p2)), .val (.int (own_max p1 p2)), .val (.int (own_min p3 p4)), .val (.int (own_max p3 p4)), .val (.ref b9), .val (.int (1 : Int32))] [(.int p6), (.int p5), (.ref b9)])) rfl (by rw [hml]; rfl) (Steps.refl _) (argsL := [(.int p5), (.int p6)]) (rest := []) (lenOf pd__40_II_41_Z rfl) rfl (by show 2 * 0 + _ ≤ _; exact Nat.le_of_eq rfl) (hb hby at_82) (fun _ _ => ⟨rfl, e26, (by decide : ((((((((0 + 0) + 0) + 0) + 0) + 1) + 0) + 0) + 0) + 0 ≤ _), (by decide : ((((((((0 + 0) + 0) + 0) + 0) + 4) + 0) + 0) + 0) + 0 ≤ _)⟩)
      dsimp only [Pt.U, Pt.locs, Pt.cells, Pt.slots] at X31 l31 y31 z31 st31 hQ31
      subst l31 y31 z31
      obtain ⟨rfl, Nq31, e31⟩ := hQ31
      have Np32 := Fr.app Np27 Nq31
      refine Go.via st31 ?_
      show Go p.tables e below s _ _ _ (T31.setTop (mkF m 85 #[.val (.int p1), .val (.int p2), .val (.int p3), .val (.int p4), .val (.int p5), .val (.int p6), .val (.int (own_min p1 p2)), .val (.int (own_max p1 p2)), .val (.int (own_min p3 p4)), .val (.int (own_max p3 p4)), .val (.ref b9), .val (.int (1 : Int32))] [(.int (own_b (¬ p5 < (own_min p1 p2) ∧ ¬ (own_max p1 p2) < p5 ∧ ¬ p6 < (own_min p3 p4) ∧ ¬ (own_max p3 p4) < p6)))]))
      refine Go.on (fun t k => XS.iload X31.here hx rfl (hb hby at_85) rfl k) ?_
      show Go p.tables e below s _ _ _ (T31.setTop (mkF m 87 #[.val (.int p1), .val (.int p2), .val (.int p3), .val (.int p4), .val (.int p5), .val (.int p6), .val (.int (own_min p1 p2)), .val (.int (own_max p1 p2)), .val (.int (own_min p3 p4)), .val (.int (own_max p3 p4)), .val (.ref b9), .val (.int (1 : Int32))] [(.int (1 : Int32)), (.int (own_b (¬ p5 < (own_min p1 p2) ∧ ¬ (own_max p1 p2) < p5 ∧ ¬ p6 < (own_min p3 p4) ∧ ¬ (own_max p3 p4) < p6)))]))
      refine Go.on (fun t k => XS.icmpNo X31.here hx rfl (hb hby at_87) rfl (teq (own_bt ⟨((own_clamp _ _ _).mp (own_b1 hc54_23)).1, ((own_clamp _ _ _).mp (own_b1 hc54_23)).2, (own_clamp _ _ _).mp (own_b1 hc66_28)⟩)).2 k) ?_
      show Go p.tables e below s _ _ _ (T31.setTop (mkF m 90 #[.val (.int p1), .val (.int p2), .val (.int p3), .val (.int p4), .val (.int p5), .val (.int p6), .val (.int (own_min p1 p2)), .val (.int (own_max p1 p2)), .val (.int (own_min p3 p4)), .val (.int (own_max p3 p4)), .val (.ref b9), .val (.int (1 : Int32))] []))
      refine Go.on (fun t k => XS.iconst X31.here hx rfl (hb hby at_90) k) ?_
      show Go p.tables e below s _ _ _ (T31.setTop (mkF m 91 #[.val (.int p1), .val (.int p2), .val (.int p3), .val (.int p4), .val (.int p5), .val (.int p6), .val (.int (own_min p1 p2)), .val (.int (own_max p1 p2)), .val (.int (own_min p3 p4)), .val (.int (own_max p3 p4)), .val (.ref b9), .val (.int (1 : Int32))] [(.int (1 : Int32))]))
      refine Go.on (fun t k => XS.goto X31.here hx rfl (pc0 := 91) (pc' := 95) rfl (hb hby at_91) (by decide) (by decide) k) ?_
      show Go p.tables e below s _ _ _ (T31.setTop (mkF m 95 #[.val (.int p1), .val (.int p2), .val (.int p3), .val (.int p4), .val (.int p5), .val (.int p6), .val (.int (own_min p1 p2)), .val (.int (own_max p1 p2)), .val (.int (own_min p3 p4)), .val (.int (own_max p3 p4)), .val (.ref b9), .val (.int (1 : Int32))] [(.int (1 : Int32))]))
      refine Go.retN X31 hx hlk (t := .boolean) Bd.returns (by simp) (hb hby at_95) (by decide) (by decide) e31 ?_
      exact ⟨rfl, Np32⟩
set_option maxRecDepth 65536 in
set_option maxHeartbeats 40000000 in
theorem comes_1 {Post : Tables → Env → Array Value → State → Outcome → State → Prop} (hpost : ∀ tb e args s v u, (limb_1_1.after args s (.returned v) u = true ∧ limb_1_2.after args s (.returned v) u = true ∧ True) → FrameEnd s (.returned v) u (Jvm.fieldLocs frame_1_writes args s ++ Jvm.arrayLocs frame_1_arrays args s ++ Jvm.staticLocs frame_1_statics s) 16 128 → Post tb e args s (.returned v) u) :
    ArmFor flags0 classFile x code maxLocals ret World_1 tables_1 room_1 Calls_1 rest_1 Pre_1 Post := by
  intro l hfl _ _ p e ha hc hk s m args below hf hA hF happ hP
  obtain ⟨hcalls, hrest, hpre⟩ := hP
  obtain ⟨-, -, -, hnamed, -, -, -, hat⟩ := (Spec.applies_iff hf).mp happ
  obtain ⟨hg, hn⟩ := and_e (Cond.before_iff.mp (show (Jvm.Cond.and given_1 narrow_1).before args s = true from hpre))
  obtain ⟨gg1, gg2⟩ := and_e hg
  obtain ⟨gg3, gg4⟩ := and_e gg2
  obtain ⟨gg5, gg6⟩ := and_e gg4
  obtain ⟨gg7, gg8⟩ := and_e gg6
  obtain ⟨gg9, gg10⟩ := and_e gg8
  obtain ⟨gg11, gg12⟩ := and_e gg10
  obtain ⟨w0, w1, w2, w3, w4, w5, rfl⟩ : ∃ w0 w1 w2 w3 w4 w5 : Value, args = #[w0, w1, w2, w3, w4, w5] := by
    have hs : args.size = 6 := by simpa [Cond.value, given_1] using gg1
    obtain ⟨L⟩ := args
    match L, hs with
    | [w0, w1, w2, w3, w4, w5], _ => exact ⟨w0, w1, w2, w3, w4, w5, rfl⟩
  have hw := fun d (hd : d ∈ tables_1) => atoms_spec (ws := Jvm.Cond.code x code maxLocals ret :: tables_1) hat d (List.mem_cons_of_mem _ hd)
  have hfit : Fit s := fun {y c} hc i hi => by
    obtain ⟨ha, rfl⟩ := Array.getElem?_eq_some_iff.mp hc
    have q := List.all_eq_true.mp ((Array.all_eq_true_iff_forall_mem.mp hF) _ (Array.getElem_mem ha)) i (List.mem_range.mpr hi)
    simpa [Array.getElem?_eq_getElem hi] using q
  obtain ⟨i0, ei0⟩ := is_v gg3
  obtain rfl : w0 = (.int i0) := Option.some.inj ei0
  obtain ⟨i1, ei1⟩ := is_v gg5
  obtain rfl : w1 = (.int i1) := Option.some.inj ei1
  obtain ⟨i2, ei2⟩ := is_v gg7
  obtain rfl : w2 = (.int i2) := Option.some.inj ei2
  obtain ⟨i3, ei3⟩ := is_v gg9
  obtain rfl : w3 = (.int i3) := Option.some.inj ei3
  obtain ⟨i4, ei4⟩ := is_v gg11
  obtain rfl : w4 = (.int i4) := Option.some.inj ei4
  obtain ⟨i5, ei5⟩ := is_v gg12
  obtain rfl : w5 = (.int i5) := Option.some.inj ei5
  obtain ⟨n, o, h1, h2, h3, _, L, rfl, ⟨rfl, N⟩, hq⟩ := rm0 l s _ hw tables_1 i0 i1 i2 i3 i4 i5  s.heap s.heap.size (Nat.le_refl _)  p e ha hc hk s m _ below hf ((Spec.applies_iff_loose hf).mp happ).1 ⟨rfl, State.Warmed39.refl s, rfl⟩ trivial
  refine ⟨n, _, h1, h2, h3, hpost _ _ _ _ _ _ ⟨Cond.after_iff.mpr rfl, Cond.after_iff.mpr (eq_i res_at (Term.int_eval (1)) rfl), trivial⟩ ⟨hq.1, hq.2.1, (hq.2.2.sift fun y hy => Or.inr (N y hy)).mono (by decide) (by decide)⟩⟩
theorem main_1_1 : Claimed_1_1 := comes_1 fun _ _ _ _ _ _ h hF => ⟨h.1, hF⟩
theorem main_1_2 : Claimed_1_2 := comes_1 fun _ _ _ _ _ _ h hF => ⟨h.2.1, hF⟩
end Jvm.Pilot.@@N@@
namespace Jvm.Pilot.@@N@@
open Jvm Jvm.ClassFile Sem Op Lib Jvm.Free Jvm.Stand Jvm.Pilot.@@N@@.Jvm.D
/-! MADE BY PROGRAM (witnessworld.py) out of the Statement's table words and the real class files: 11 classes; the members and pool entries that the words name. The judged class is class 1, her method 2. -/
namespace start1
open Jvm.ClassFile
def u (s : String) : CpInfo := .utf8 (stringToUtf16 s)
/-- a pool by its gaps: so many unusable entries, then the entry; so many at the end -/
def gap : Nat → List CpInfo → List CpInfo
  | 0, r => r
  | n + 1, r => .unusable :: gap n r
def poolList (es : List (Nat × CpInfo)) (last : Nat) : List CpInfo := es.foldr (fun e r => gap e.1 (e.2 :: r)) (gap last [])
def pool (es : List (Nat × CpInfo)) (last : Nat) : Array CpInfo := ⟨poolList es last⟩
def fileOf (pool : Array CpInfo) (this : Nat) (attrs : Array Attribute := #[]) (ms : Array MethodInfo := #[]) (fl : Nat := 33) (sup : Nat := 0) (ifs : Array Nat := #[]) (fds : Array FieldInfo := #[]) : ClassFile where
  minorVersion := 0
  majorVersion := 65
  constantPool := pool
  accessFlags := fl
  thisClass := this
  superClass := sup
  interfaces := ifs
  fields := fds
  methods := ms
  attributes := attrs
def plain (name : String) (sup : Option ClassId) : Class where
  name := name
  kind := .ordinary
  loader := none
  accessFlags := 33
  super := sup
  interfaces := #[]
  cf := none
  fields := #[]
  methods := #[]
  instanceTypes := #[]
  staticTypes := #[]
  resolved := #[]
  callSites := []
  init := .initialized
  statics := none
  mirror := none

def pool0 : Array CpInfo := pool [(5, u "<init>"), (0, u "()V"), (1, .class_ 10), (1, u "java/lang/Object")] 113

def k0c0 : Code := { maxStack := 0, maxLocals := 1, code := object_method_1_code, exceptionTable := #[], attributes := #[] }
def k0m0 : Method := { name := "<init>", desc := "()V", sig := { parameters := [], returnType := none }, accessFlags := 1, code := some k0c0 }
/-- java/lang/Object -/
def k0 : Class := { plain "java/lang/Object" none with
  accessFlags := 33
  interfaces := #[]
  cf := some (fileOf pool0 8 #[] #[{ accessFlags := 1, nameIndex := 5, descriptorIndex := 6, attributes := #[] }] 33 0 #[] #[])
  fields := #[]
  methods := #[k0m0]
  instanceTypes := #[]
  staticTypes := #[]
  resolved := Array.replicate 124 none
  statics := none }

def pool1 : Array CpInfo := pool [(2, .class_ 4), (1, u "java/lang/Object"), (0, u "<init>"), (0, u "()V"), (0, .methodref 8 9), (0, .class_ 10), (0, .nameAndType 11 12), (0, u "java/lang/Math"), (0, u "min"), (0, u "(II)I"), (0, .methodref 8 14), (0, .nameAndType 15 12), (0, u "max"), (0, .class_ 17), (0, u "com/example/gridshift/gridshift/CellRange"), (0, .methodref 16 19), (0, .nameAndType 5 20), (0, u "(IIII)V"), (0, .methodref 22 23), (0, .class_ 24), (0, .nameAndType 25 26), (0, u "com/example/gridshift/gridshift/CellRangeContainsPinLaw"), (0, u "clampKeeps"), (0, u "(III)Z"), (0, .methodref 16 28), (0, .nameAndType 29 30), (0, u "contains"), (0, u "(II)Z"), (3, u "law"), (0, u "(IIIIII)Z")] 2

def k1m0 : Method := { name := "<init>", desc := "()V", sig := { parameters := [], returnType := none }, accessFlags := 2, code := none }
def k1c1 : Code := { maxStack := 3, maxLocals := 3, code := method_2_code, exceptionTable := #[], attributes := #[] }
def k1m1 : Method := { name := "clampKeeps", desc := "(III)Z", sig := { parameters := [.int, .int, .int], returnType := some .boolean }, accessFlags := 10, code := some k1c1 }
def k1c2 : Code := { maxStack := 6, maxLocals := 12, code := code, exceptionTable := #[], attributes := #[] }
def k1m2 : Method := { name := "law", desc := "(IIIIII)Z", sig := { parameters := [.int, .int, .int, .int, .int, .int], returnType := some .boolean }, accessFlags := 9, code := some k1c2 }
/-- com/example/gridshift/gridshift/CellRangeContainsPinLaw -/
def k1 : Class := { plain "com/example/gridshift/gridshift/CellRangeContainsPinLaw" (some 0) with
  accessFlags := 49
  interfaces := #[]
  cf := some (fileOf pool1 22 #[] #[{ accessFlags := 2, nameIndex := 5, descriptorIndex := 6, attributes := #[] }, { accessFlags := 10, nameIndex := 25, descriptorIndex := 26, attributes := #[] }, { accessFlags := 9, nameIndex := 34, descriptorIndex := 35, attributes := #[] }] 49 2 #[] #[])
  fields := #[]
  methods := #[k1m0, k1m1, k1m2]
  instanceTypes := #[]
  staticTypes := #[]
  resolved := Array.replicate 38 none
  statics := none }

def pool2 : Array CpInfo := pool [(1, .class_ 2), (0, u "java/lang/Math"), (1, .class_ 6), (1, u "java/lang/Object"), (0, u "<init>"), (0, u "()V"), (89, .class_ 100), (1, u "java/lang/Math$RandomNumberGeneratorHolder"), (71, u "negativeZeroFloatBits"), (0, u "J"), (2, u "negativeZeroDoubleBits"), (21, u "max"), (2, u "min"), (43, u "$assertionsDisabled"), (0, u "Z"), (88, u "(II)I"), (2, u "twoToTheDoubleScaleDown"), (0, u "D"), (4, u "twoToTheDoubleScaleUp"), (9, u "E"), (3, u "PI"), (2, u "TAU"), (2, u "DEGREES_TO_RADIANS"), (0, u "RADIANS_TO_DEGREES")] 94

def k2m0 : Method := { name := "<init>", desc := "()V", sig := { parameters := [], returnType := none }, accessFlags := 2, code := none }
def k2c1 : Code := { maxStack := 2, maxLocals := 2, code := jdk_29_method_65_code, exceptionTable := #[], attributes := #[] }
def k2m1 : Method := { name := "max", desc := "(II)I", sig := { parameters := [.int, .int], returnType := some .int }, accessFlags := 9, code := some k2c1 }
def k2c2 : Code := { maxStack := 2, maxLocals := 2, code := jdk_29_method_69_code, exceptionTable := #[], attributes := #[] }
def k2m2 : Method := { name := "min", desc := "(II)I", sig := { parameters := [.int, .int], returnType := some .int }, accessFlags := 9, code := some k2c2 }
/-- java/lang/Math -/
def k2 : Class := { plain "java/lang/Math" (some 0) with
  accessFlags := 49
  interfaces := #[]
  cf := some (fileOf pool2 1 #[.nestMembers #[98]] #[{ accessFlags := 2, nameIndex := 7, descriptorIndex := 8, attributes := #[] }, { accessFlags := 9, nameIndex := 198, descriptorIndex := 335, attributes := #[] }, { accessFlags := 9, nameIndex := 201, descriptorIndex := 335, attributes := #[] }] 49 4 #[] #[{ accessFlags := 25, nameIndex := 354, descriptorIndex := 339, attributes := #[] }, { accessFlags := 25, nameIndex := 358, descriptorIndex := 339, attributes := #[] }, { accessFlags := 25, nameIndex := 361, descriptorIndex := 339, attributes := #[] }, { accessFlags := 26, nameIndex := 364, descriptorIndex := 339, attributes := #[] }, { accessFlags := 26, nameIndex := 365, descriptorIndex := 339, attributes := #[] }, { accessFlags := 26, nameIndex := 172, descriptorIndex := 173, attributes := #[] }, { accessFlags := 26, nameIndex := 176, descriptorIndex := 173, attributes := #[] }, { accessFlags := 8, nameIndex := 344, descriptorIndex := 339, attributes := #[] }, { accessFlags := 8, nameIndex := 338, descriptorIndex := 339, attributes := #[] }, { accessFlags := 4120, nameIndex := 245, descriptorIndex := 246, attributes := #[] }])
  fields := #[{ name := "E", type := .double, accessFlags := 25, slot := 0, constantValue := 0 }, { name := "PI", type := .double, accessFlags := 25, slot := 1, constantValue := 0 }, { name := "TAU", type := .double, accessFlags := 25, slot := 2, constantValue := 0 }, { name := "DEGREES_TO_RADIANS", type := .double, accessFlags := 26, slot := 3, constantValue := 0 }, { name := "RADIANS_TO_DEGREES", type := .double, accessFlags := 26, slot := 4, constantValue := 0 }, { name := "negativeZeroFloatBits", type := .long, accessFlags := 26, slot := 5, constantValue := 0 }, { name := "negativeZeroDoubleBits", type := .long, accessFlags := 26, slot := 6, constantValue := 0 }, { name := "twoToTheDoubleScaleUp", type := .double, accessFlags := 8, slot := 7, constantValue := 0 }, { name := "twoToTheDoubleScaleDown", type := .double, accessFlags := 8, slot := 8, constantValue := 0 }, { name := "$assertionsDisabled", type := .boolean, accessFlags := 4120, slot := 9, constantValue := 0 }]
  methods := #[k2m0, k2m1, k2m2]
  instanceTypes := #[]
  staticTypes := #[.double, .double, .double, .double, .double, .long, .long, .double, .double, .boolean]
  resolved := Array.replicate 460 none
  statics := none }

def pool3 : Array CpInfo := pool [(1, .methodref 2 3), (0, .class_ 4), (0, .nameAndType 5 6), (0, u "java/lang/Object"), (0, u "<init>"), (0, u "()V"), (0, .class_ 8), (0, u "java/lang/Record")] 13

def k3c0 : Code := { maxStack := 1, maxLocals := 1, code := jdk_30_method_1_code, exceptionTable := #[], attributes := #[] }
def k3m0 : Method := { name := "<init>", desc := "()V", sig := { parameters := [], returnType := none }, accessFlags := 4, code := some k3c0 }
/-- java/lang/Record -/
def k3 : Class := { plain "java/lang/Record" (some 0) with
  accessFlags := 1057
  interfaces := #[]
  cf := some (fileOf pool3 7 #[] #[{ accessFlags := 4, nameIndex := 5, descriptorIndex := 6, attributes := #[] }] 1057 2 #[] #[])
  fields := #[]
  methods := #[k3m0]
  instanceTypes := #[]
  staticTypes := #[]
  resolved := Array.replicate 22 none
  statics := none }

def pool4 : Array CpInfo := pool [(1, .methodref 2 3), (0, .class_ 4), (0, .nameAndType 5 6), (0, u "java/lang/Record"), (0, u "<init>"), (0, u "()V"), (0, .fieldref 8 9), (0, .class_ 10), (0, .nameAndType 11 12), (0, u "com/example/gridshift/gridshift/CellRange"), (0, u "firstColumn"), (0, u "I"), (0, .fieldref 8 14), (0, .nameAndType 15 12), (0, u "firstRow"), (0, .fieldref 8 17), (0, .nameAndType 18 12), (0, u "lastColumn"), (0, .fieldref 8 20), (0, .nameAndType 21 12), (0, u "lastRow"), (23, u "(IIII)V"), (43, u "contains"), (0, u "(II)Z")] 36

def k4c0 : Code := { maxStack := 2, maxLocals := 5, code := prog_4_method_1_code, exceptionTable := #[], attributes := #[] }
def k4m0 : Method := { name := "<init>", desc := "(IIII)V", sig := { parameters := [.int, .int, .int, .int], returnType := none }, accessFlags := 0, code := some k4c0 }
def k4c1 : Code := { maxStack := 2, maxLocals := 3, code := prog_4_method_10_code, exceptionTable := #[], attributes := #[] }
def k4m1 : Method := { name := "contains", desc := "(II)Z", sig := { parameters := [.int, .int], returnType := some .boolean }, accessFlags := 0, code := some k4c1 }
/-- com/example/gridshift/gridshift/CellRange -/
def k4 : Class := { plain "com/example/gridshift/gridshift/CellRange" (some 3) with
  accessFlags := 48
  interfaces := #[]
  cf := some (fileOf pool4 8 #[] #[{ accessFlags := 0, nameIndex := 5, descriptorIndex := 45, attributes := #[] }, { accessFlags := 0, nameIndex := 89, descriptorIndex := 90, attributes := #[] }] 48 2 #[] #[{ accessFlags := 18, nameIndex := 11, descriptorIndex := 12, attributes := #[] }, { accessFlags := 18, nameIndex := 15, descriptorIndex := 12, attributes := #[] }, { accessFlags := 18, nameIndex := 18, descriptorIndex := 12, attributes := #[] }, { accessFlags := 18, nameIndex := 21, descriptorIndex := 12, attributes := #[] }])
  fields := #[{ name := "firstColumn", type := .int, accessFlags := 18, slot := 0, constantValue := 0 }, { name := "firstRow", type := .int, accessFlags := 18, slot := 1, constantValue := 0 }, { name := "lastColumn", type := .int, accessFlags := 18, slot := 2, constantValue := 0 }, { name := "lastRow", type := .int, accessFlags := 18, slot := 3, constantValue := 0 }]
  methods := #[k4m0, k4m1]
  instanceTypes := #[.int, .int, .int, .int]
  staticTypes := #[]
  resolved := Array.replicate 127 none
  statics := none }

def pool5 : Array CpInfo := pool [(1, u "java/lang/Cloneable"), (0, .class_ 1), (0, u "java/lang/Object"), (0, .class_ 3)] 3

/-- java/lang/Cloneable -/
def k5 : Class := { plain "java/lang/Cloneable" (some 0) with
  accessFlags := 1537
  interfaces := #[]
  cf := some (fileOf pool5 2 #[] #[] 1537 4 #[] #[])
  fields := #[]
  methods := #[]
  instanceTypes := #[]
  staticTypes := #[]
  resolved := Array.replicate 8 none
  statics := none }

def pool6 : Array CpInfo := pool [(1, u "java/io/Serializable"), (0, .class_ 1), (0, u "java/lang/Object"), (0, .class_ 3)] 3

/-- java/io/Serializable -/
def k6 : Class := { plain "java/io/Serializable" (some 0) with
  accessFlags := 1537
  interfaces := #[]
  cf := some (fileOf pool6 2 #[] #[] 1537 4 #[] #[])
  fields := #[]
  methods := #[]
  instanceTypes := #[]
  staticTypes := #[]
  resolved := Array.replicate 8 none
  statics := none }

/-- the primitive byte -/
def k7 : Class := { plain "byte" none with kind := .primitive 'B', accessFlags := 0x411 }
/-- [B -/
def k8 : Class := { plain "[B" (some 0) with kind := .array 7 .byte, interfaces := #[5, 6], accessFlags := 1041 }

/-- the primitive int -/
def k9 : Class := { plain "int" none with kind := .primitive 'I', accessFlags := 0x411 }
/-- [I -/
def k10 : Class := { plain "[I" (some 0) with kind := .array 9 .int, interfaces := #[5, 6], accessFlags := 1041 }

def heap : Heap := #[]
def classes : Array Class := #[k0, k1, k2, k3, k4, k5, k6, k7, k8, k9, k10]
def interned : List (Array UInt16 × Addr) := []
def slotsUsed : Nat := 0
def theMethod : MethodId := ⟨1, 2⟩
def args0 : Array Value := #[.int 5, .int 1, .int 2, .int 7, .int 3, .int 4]
def aboutOver (below : List Frame) : State where
  vm := { classes := classes, interned := interned.toArray }
  heap := heap
  slotsUsed := slotsUsed
  threads := #[{ frames := .invoking theMethod args0 :: below }]
def below0 : List Frame := [.native { method := ⟨0, 0⟩, args := #[] }]
def about1 : State := aboutOver below0
def p0 : Program := .bare "" "" ""
def e0 : Env := launch0.env 0 0 0
theorem w_frames : about1.frames = Frame.invoking theMethod args0 :: below0 := rfl
set_option maxRecDepth 65536 in
theorem w_args : argsFit about1.vm theMethod args0 = true := by decide +kernel
set_option maxRecDepth 65536 in
theorem w_heap : heapFits about1 = true := by decide +kernel
set_option maxRecDepth 65536 in
theorem w_runnable : about1.curStatus? = some .runnable := by decide +kernel
set_option maxRecDepth 65536 in
theorem w_alone : about1.alone = true := by decide +kernel
set_option maxRecDepth 65536 in
theorem w_named : about1.methodNamed? x = some theMethod := by decide +kernel
set_option maxRecDepth 65536 in
theorem w_hears : about1.hears theMethod below0 = true := by decide +kernel
set_option maxRecDepth 65536 in
theorem w_ripe : about1.ripe theMethod args0 below0 = true := by decide +kernel
theorem w_running : about1.status = .running := rfl
set_option maxRecDepth 65536 in
theorem w_room : about1.hasRoom e0.platform room_1 = true :=
  launch0.hasRoom_least _ room_1 (by decide +kernel) (by decide +kernel) (by decide +kernel) (by decide +kernel) (by decide +kernel) (by decide +kernel)
theorem allAtoms_all (ts : List Jvm.Cond) (a : Array Jvm.Value) (st : Jvm.State) : (allAtoms ts).before a st = ts.all (fun c => c.before a st) := by
  induction ts with
  | nil => rfl
  | cons c t ih =>
    show (Jvm.Cond.and c (allAtoms t)).before a st = _
    rw [Jvm.Cond.before_and, ih, List.all_cons]
def words1 : List Jvm.Cond := Jvm.Cond.code x code maxLocals ret :: tables_1
/-- a 'code' word, met by the world's own term for the bytes: nothing is compared byte by byte -/
theorem code_word {y : MethodName} {bytes : ByteArray} {mx : Nat} {rt : Option FieldType} {a : Array Value} {s : State} {m : MethodId} {meth : Method} {c : Code} (h1 : s.methodNamed? y = some m) (h2 : s.vm.method? m = some meth) (h3 : meth.code = some c) (h4 : c.code = bytes)
    (h5 : (c.maxLocals == mx && c.exceptionTable.isEmpty && decide (c.maxStack ≤ mostOperands) && decide (meth.sig.returnType = rt) && !meth.locks && decide (parseMethodDescriptor y.desc = some meth.sig)) = true) : (Jvm.Cond.code y bytes mx rt).before a s = true := by
  simp only [Bool.and_eq_true, beq_iff_eq, Bool.not_eq_true', decide_eq_true_eq] at h5
  obtain ⟨⟨⟨⟨⟨g1, g2⟩, g3⟩, g4⟩, g5⟩, g6⟩ := h5
  simp [Cond.before, Cond.holds, Cond.value, h1, h2, h3, h4, g1, g2, g3, g4, g5, g6]
def isCode : Jvm.Cond → Bool
  | .code _ _ _ _ => true
  | _ => false
theorem all_split {L : List Jvm.Cond} {P : Jvm.Cond → Bool} (h1 : L.all (fun c => isCode c || P c) = true) (h2 : ∀ c ∈ L.filter isCode, P c = true) : L.all P = true := by
  refine List.all_eq_true.mpr fun c hc => ?_
  have h := List.all_eq_true.mp h1 c hc
  rcases Bool.eq_false_or_eq_true (isCode c) with hi | hi
  · exact h2 c (List.mem_filter.mpr ⟨hc, hi⟩)
  · simpa [hi] using h
set_option maxRecDepth 65536 in
theorem w_c0 : (Jvm.Cond.code x code maxLocals ret).before args0 about1 = true := code_word (m := ⟨1, 2⟩) (meth := k1m2) (c := k1c2) (by decide +kernel) rfl rfl rfl (by decide +kernel)
set_option maxRecDepth 65536 in
theorem w_c1 : (Jvm.Cond.code ({ cls := "java/lang/Math", name := "min", desc := "(II)I" } : Jvm.MethodName) jdk_29_method_69_code (2 : Nat) (Option.some Jvm.ClassFile.FieldType.int)).before args0 about1 = true := code_word (m := ⟨2, 2⟩) (meth := k2m2) (c := k2c2) (by decide +kernel) rfl rfl rfl (by decide +kernel)
set_option maxRecDepth 65536 in
theorem w_c2 : (Jvm.Cond.code ({ cls := "java/lang/Math", name := "max", desc := "(II)I" } : Jvm.MethodName) jdk_29_method_65_code (2 : Nat) (Option.some Jvm.ClassFile.FieldType.int)).before args0 about1 = true := code_word (m := ⟨2, 1⟩) (meth := k2m1) (c := k2c1) (by decide +kernel) rfl rfl rfl (by decide +kernel)
set_option maxRecDepth 65536 in
theorem w_c3 : (Jvm.Cond.code ({ cls := "com/example/gridshift/gridshift/CellRange", name := "<init>", desc := "(IIII)V" } : Jvm.MethodName) prog_4_method_1_code (5 : Nat) (Option.none : Option Jvm.ClassFile.FieldType)).before args0 about1 = true := code_word (m := ⟨4, 0⟩) (meth := k4m0) (c := k4c0) (by decide +kernel) rfl rfl rfl (by decide +kernel)
set_option maxRecDepth 65536 in
theorem w_c4 : (Jvm.Cond.code ({ cls := "java/lang/Record", name := "<init>", desc := "()V" } : Jvm.MethodName) jdk_30_method_1_code (1 : Nat) (Option.none : Option Jvm.ClassFile.FieldType)).before args0 about1 = true := code_word (m := ⟨3, 0⟩) (meth := k3m0) (c := k3c0) (by decide +kernel) rfl rfl rfl (by decide +kernel)
set_option maxRecDepth 65536 in
theorem w_c5 : (Jvm.Cond.code ({ cls := "java/lang/Object", name := "<init>", desc := "()V" } : Jvm.MethodName) object_method_1_code (1 : Nat) (Option.none : Option Jvm.ClassFile.FieldType)).before args0 about1 = true := code_word (m := ⟨0, 0⟩) (meth := k0m0) (c := k0c0) (by decide +kernel) rfl rfl rfl (by decide +kernel)
set_option maxRecDepth 65536 in
theorem w_c6 : (Jvm.Cond.code ({ cls := "com/example/gridshift/gridshift/CellRangeContainsPinLaw", name := "clampKeeps", desc := "(III)Z" } : Jvm.MethodName) method_2_code (3 : Nat) (Option.some Jvm.ClassFile.FieldType.boolean)).before args0 about1 = true := code_word (m := ⟨1, 1⟩) (meth := k1m1) (c := k1c1) (by decide +kernel) rfl rfl rfl (by decide +kernel)
set_option maxRecDepth 65536 in
theorem w_c7 : (Jvm.Cond.code ({ cls := "com/example/gridshift/gridshift/CellRange", name := "contains", desc := "(II)Z" } : Jvm.MethodName) prog_4_method_10_code (3 : Nat) (Option.some Jvm.ClassFile.FieldType.boolean)).before args0 about1 = true := code_word (m := ⟨4, 1⟩) (meth := k4m1) (c := k4c1) (by decide +kernel) rfl rfl rfl (by decide +kernel)
def codes1 : List Jvm.Cond := [Jvm.Cond.code x code maxLocals ret, Jvm.Cond.code ({ cls := "java/lang/Math", name := "min", desc := "(II)I" } : Jvm.MethodName) jdk_29_method_69_code (2 : Nat) (Option.some Jvm.ClassFile.FieldType.int), Jvm.Cond.code ({ cls := "java/lang/Math", name := "max", desc := "(II)I" } : Jvm.MethodName) jdk_29_method_65_code (2 : Nat) (Option.some Jvm.ClassFile.FieldType.int), Jvm.Cond.code ({ cls := "com/example/gridshift/gridshift/CellRange", name := "<init>", desc := "(IIII)V" } : Jvm.MethodName) prog_4_method_1_code (5 : Nat) (Option.none : Option Jvm.ClassFile.FieldType), Jvm.Cond.code ({ cls := "java/lang/Record", name := "<init>", desc := "()V" } : Jvm.MethodName) jdk_30_method_1_code (1 : Nat) (Option.none : Option Jvm.ClassFile.FieldType), Jvm.Cond.code ({ cls := "java/lang/Object", name := "<init>", desc := "()V" } : Jvm.MethodName) object_method_1_code (1 : Nat) (Option.none : Option Jvm.ClassFile.FieldType), Jvm.Cond.code ({ cls := "com/example/gridshift/gridshift/CellRangeContainsPinLaw", name := "clampKeeps", desc := "(III)Z" } : Jvm.MethodName) method_2_code (3 : Nat) (Option.some Jvm.ClassFile.FieldType.boolean), Jvm.Cond.code ({ cls := "com/example/gridshift/gridshift/CellRange", name := "contains", desc := "(II)Z" } : Jvm.MethodName) prog_4_method_10_code (3 : Nat) (Option.some Jvm.ClassFile.FieldType.boolean)]
set_option maxRecDepth 65536 in
theorem codes_eq : words1.filter isCode = codes1 := rfl
theorem w_codes : ∀ c ∈ words1.filter isCode, c.before args0 about1 = true := by
  rw [codes_eq]
  intro c hc
  simp only [codes1, List.mem_cons, List.not_mem_nil, or_false] at hc
  rcases hc with rfl | rfl | rfl | rfl | rfl | rfl | rfl | rfl
  · exact w_c0
  · exact w_c1
  · exact w_c2
  · exact w_c3
  · exact w_c4
  · exact w_c5
  · exact w_c6
  · exact w_c7
set_option maxRecDepth 65536 in
theorem w_t1 : (words1.take 24).all (fun c => isCode c || c.before args0 about1) = true := by decide +kernel
set_option maxRecDepth 65536 in
theorem w_t2 : (words1.drop 24).all (fun c => isCode c || c.before args0 about1) = true := by decide +kernel
theorem w_tables : (allAtoms (Jvm.Cond.code x code maxLocals ret :: tables_1)).before args0 about1 = true := by
  rw [allAtoms_all]
  show words1.all (fun c => c.before args0 about1) = true
  refine all_split ?_ w_codes
  rw [← List.take_append_drop 24 words1, List.all_append, w_t1, w_t2]
  rfl
set_option maxRecDepth 65536 in
theorem w_case : (Jvm.Cond.and given_1 narrow_1).before args0 about1 = true := by decide +kernel
theorem w_applies : (headSpec (Jvm.Cond.code x code maxLocals ret :: tables_1) room_1).applies x e0.platform about1 = true :=
  (Spec.applies_iff w_frames).mpr ⟨w_running, w_runnable, w_alone, w_named, w_hears, w_ripe, w_room, w_tables⟩
theorem atStart : AtStart classFile x code maxLocals ret World_1 tables_1 room_1 Calls_1 rest_1 Pre_1 launch0 p0 e0 about1 theMethod args0 below0 :=
  ⟨lists_1, trivial, launch0.admits_env _ _ _, launch0.least_env, fairChoices_fair.cas, fairChoices_fair.clock, w_frames, w_args, w_heap, w_applies, trivial, trivial, w_case⟩
end start1
theorem witness_1 : WitnessClaimed_1 := ⟨start1.p0, start1.e0, start1.about1, start1.theMethod, start1.args0, start1.below0, start1.atStart⟩
end Jvm.Pilot.@@N@@
