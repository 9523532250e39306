import JvmDerived
import JvmDerived.Pilot.@@N@@Statement
import JvmDerived.Pilot.@@N@@Code
set_option linter.unusedVariables false
set_option linter.unusedSimpArgs false
namespace Jvm.RoadKit
open Sem ClassFile Op Lib Jvm.Stand Jvm.Free Jvm.LawKit
section New
variable {p : Program} {l : Launch} {e : Env} {R : Room} {s : State} {m : MethodId} {args : Array Value} {below : List Frame} {meth : Method} {c : Code} {T : State} {locs : List Loc} {cells slots : Nat}
theorem retI (X : Stand p l e R s m args below meth c T locs cells slots) (hx : p.tables.exec = Jvm.exec) {pc : Nat} {Ls : Array Slot} {z : Int32} {rest : List Value} (hret : meth.sig.returnType = some .int) (hd : decode c.code pc = .ok (.ireturn, 1)) {fs : List Frame}
    (hl : ∀ (f : JFrame) (acts : List Action), f.method = m → f.locked = none → f.entered = [] → (doReturn e (T.setTop f) acts (some (.int z))).1 = T.setFrames fs) : Steps p.tables e below (T.setTop (mkF m pc Ls (.int z :: rest))) (T.setFrames fs) := by
  have hm' : T.vm.method? m = some meth := X.method'
  have hn : narrow .int (.int z) = .int z := rfl
  show Steps p.tables e below (T.setTop { method := m, pc := pc, locals := Ls, stack := _ :: rest, locked := none }) _
  jvm_step X.here [X.here.top, hx, hd, hm', hret, hn]
  first | (intro acts; rw [hl _ acts rfl rfl rfl]) | rw [hl _ _ rfl rfl rfl]
  exact Steps.refl _
/-- from the state A the body comes to its end, and what it leaves is Q's -/
def Go (tb : Tables) (e : Env) (below : List Frame) (s : State) (Q : Option Value → Heap → List Loc → Prop) (k n : Nat) (A : State) : Prop :=
  ∃ s₂ o, Steps tb e below A s₂ ∧ s₂.status = .running ∧ Ended s₂ below o ∧ ∃ v L, o = .returned v ∧ Q v s₂.heap L ∧ FrameEnd s o s₂ L k n
theorem Go.on {tb : Tables} {Q : Option Value → Heap → List Loc → Prop} {k n : Nat} {A B : State} (h : ∀ t, Steps tb e below B t → Steps tb e below A t) (g : Go tb e below s Q k n B) : Go tb e below s Q k n A := by
  obtain ⟨s₂, o, h1, h2⟩ := g
  exact ⟨s₂, o, h _ h1, h2⟩
theorem Go.via {tb : Tables} {Q : Option Value → Heap → List Loc → Prop} {k n : Nat} {A B : State} (h : Steps tb e below A B) (g : Go tb e below s Q k n B) : Go tb e below s Q k n A := by
  obtain ⟨s₂, o, h1, h2⟩ := g
  exact ⟨s₂, o, h.trans h1, h2⟩
theorem Go.retN (X : Stand p l e R s m args below meth c T locs cells slots) (hx : p.tables.exec = Jvm.exec) (hlk : meth.locks = false) {Q : Option Value → Heap → List Loc → Prop} {k n : Nat} {pc : Nat} {Ls : Array Slot} {z : Int32} {t : FieldType} {rest : List Value} (hret : meth.sig.returnType = some t) (ht : t = .boolean ∨ t = .byte ∨ t = .char ∨ t = .short)
    (hd : decode c.code pc = .ok (.ireturn, 1)) (hk : cells ≤ k) (hn : slots ≤ n) {h : Heap} (eT : T.heap = h) (q : Q (some (.int (nar t z))) h locs) : Go p.tables e below s Q k n (T.setTop (mkF m pc Ls (.int z :: rest))) := by
  obtain ⟨fs, hr, hrun, hended, hW, hsame⟩ := X.leave (v := some (.int (nar t z))) (fun h => by rw [hret] at h; cases h) hlk
  subst eT
  exact ⟨_, _, Jvm.RoadKit.retN X hx hret ht hd hr, hrun, hended, _, _, rfl, q, ⟨_, rfl⟩, hW, hsame.mono hk hn⟩
theorem Go.retI (X : Stand p l e R s m args below meth c T locs cells slots) (hx : p.tables.exec = Jvm.exec) (hlk : meth.locks = false) {Q : Option Value → Heap → List Loc → Prop} {k n : Nat} {pc : Nat} {Ls : Array Slot} {z : Int32} {rest : List Value} (hret : meth.sig.returnType = some .int)
    (hd : decode c.code pc = .ok (.ireturn, 1)) (hk : cells ≤ k) (hn : slots ≤ n) {h : Heap} (eT : T.heap = h) (q : Q (some (.int z)) h locs) : Go p.tables e below s Q k n (T.setTop (mkF m pc Ls (.int z :: rest))) := by
  obtain ⟨fs, hr, hrun, hended, hW, hsame⟩ := X.leave (v := some (.int z)) (fun h => by rw [hret] at h; cases h) hlk
  subst eT
  exact ⟨_, _, Jvm.RoadKit.retI X hx hret hd hr, hrun, hended, _, _, rfl, q, ⟨_, rfl⟩, hW, hsame.mono hk hn⟩
theorem Go.retJ (X : Stand p l e R s m args below meth c T locs cells slots) (hx : p.tables.exec = Jvm.exec) (hlk : meth.locks = false) {Q : Option Value → Heap → List Loc → Prop} {k n : Nat} {pc : Nat} {Ls : Array Slot} {z : Int64} (hret : meth.sig.returnType = some .long)
    (hd : decode c.code pc = .ok (.lreturn, 1)) (hk : cells ≤ k) (hn : slots ≤ n) {h : Heap} (eT : T.heap = h) (q : Q (some (.long z)) h locs) : Go p.tables e below s Q k n (T.setTop (mkF m pc Ls [.long z])) := by
  obtain ⟨fs, hr, hrun, hended, hW, hsame⟩ := X.leave (v := some (.long z)) (fun h => by rw [hret] at h; cases h) hlk
  subst eT
  exact ⟨_, _, X.lreturnOut hx hret hd hr, hrun, hended, _, _, rfl, q, ⟨_, rfl⟩, hW, hsame.mono hk hn⟩
theorem Go.retA (X : Stand p l e R s m args below meth c T locs cells slots) (hx : p.tables.exec = Jvm.exec) (hlk : meth.locks = false) {Q : Option Value → Heap → List Loc → Prop} {k n : Nat} {pc : Nat} {Ls : Array Slot} {w : Value} {t : FieldType} (hw : w.isRef = true) (hret : meth.sig.returnType = some t) (ht : t.isReference = true)
    (hd : decode c.code pc = .ok (.areturn, 1)) (hk : cells ≤ k) (hn : slots ≤ n) {h : Heap} (eT : T.heap = h) (q : Q (some w) h locs) : Go p.tables e below s Q k n (T.setTop (mkF m pc Ls [w])) := by
  obtain ⟨fs, hr, hrun, hended, hW, hsame⟩ := X.leave (v := some w) (fun h => by rw [hret] at h; cases h) hlk
  subst eT
  exact ⟨_, _, X.areturnOut hx hw hret ht hd hr, hrun, hended, _, _, rfl, q, ⟨_, rfl⟩, hW, hsame.mono hk hn⟩
theorem Go.retV (X : Stand p l e R s m args below meth c T locs cells slots) (hx : p.tables.exec = Jvm.exec) (hlk : meth.locks = false) {Q : Option Value → Heap → List Loc → Prop} {k n : Nat} {pc : Nat} {Ls : Array Slot} (hret : meth.sig.returnType = none)
    (hd : decode c.code pc = .ok (.return_, 1)) (hk : cells ≤ k) (hn : slots ≤ n) {h : Heap} (eT : T.heap = h) (q : Q none h locs) : Go p.tables e below s Q k n (T.setTop (mkF m pc Ls [])) := by
  obtain ⟨fs, hr, hrun, hended, hW, hsame⟩ := X.leave (v := none) (fun _ => rfl) hlk
  subst eT
  exact ⟨_, _, X.returnOut hx hret hd hr, hrun, hended, _, _, rfl, q, ⟨_, rfl⟩, hW, hsame.mono hk hn⟩
end New
end Jvm.RoadKit
namespace Jvm.Pilot.@@N@@
open Jvm Jvm.ClassFile Sem Op Lib Jvm.Free Jvm.Stand Jvm.LawKit Jvm.RoadKit Bundle Jvm.Pilot.@@N@@.Jvm.D


def own_b (P : Prop) [Decidable P] : Int32 := if P then 1 else 0
theorem own_b0 {P : Prop} [Decidable P] (h : own_b P = 0) : ¬ P := fun q => by rw [own_b, if_pos q] at h; cases h
theorem own_b1 {P : Prop} [Decidable P] (h : ¬ own_b P = 0) : P := Decidable.byContradiction fun q => h (by rw [own_b, if_neg q])
theorem own_bt {P : Prop} [Decidable P] (h : P) : own_b P = 1 := by rw [own_b, if_pos h]
theorem own_bf {P : Prop} [Decidable P] (h : ¬ P) : own_b P = 0 := by rw [own_b, if_neg h]

theorem own_r (x : Int32) : -2147483648 ≤ x.toInt64.toInt ∧ x.toInt64.toInt < 2147483648 := by rw [c_i2l]; exact ⟨Int32.le_toInt x, Int32.toInt_lt x⟩
theorem own_53 (x : Int32) : B53 x.toInt64 := by have := own_r x; exact ⟨by omega, by omega⟩
def own_maxL (a b : Int64) : Int64 := if a < b then b else a
def own_minL (a b : Int64) : Int64 := if b < a then b else a
def own_hi (a b : Int64) : Int64 := if own_minL a b = own_maxL a b then own_minL a b + (1 : Int64) else own_maxL a b
theorem own_lh (a b : Int32) : (-2147483648 ≤ (own_minL a.toInt64 b.toInt64).toInt ∧ (own_minL a.toInt64 b.toInt64).toInt < 2147483648) ∧ own_minL a.toInt64 b.toInt64 < own_hi a.toInt64 b.toInt64 ∧ (own_hi a.toInt64 b.toInt64).toInt ≤ 2147483648 := by
  have h1 := own_r a
  have h2 := own_r b
  have e1 : (1 : Int64).toInt = 1 := rfl
  have h3 := c_ladd (own_minL a.toInt64 b.toInt64) (1 : Int64)
  have h4 : -9223372036854775808 ≤ (own_minL a.toInt64 b.toInt64 + (1 : Int64)).toInt ∧ (own_minL a.toInt64 b.toInt64 + (1 : Int64)).toInt < 9223372036854775808 := ⟨Int64.le_toInt _, Int64.toInt_lt _⟩
  rw [e1] at h3
  have h5 : -2147483648 ≤ (own_minL a.toInt64 b.toInt64).toInt ∧ (own_minL a.toInt64 b.toInt64).toInt < 2147483648 := by unfold own_minL; split <;> omega
  have h6 : (own_maxL a.toInt64 b.toInt64).toInt < 2147483648 := by unfold own_maxL; split <;> omega
  have h7 : (own_minL a.toInt64 b.toInt64).toInt ≤ (own_maxL a.toInt64 b.toInt64).toInt := by
    unfold own_minL own_maxL; simp only [Int64.lt_iff_toInt_lt]; repeat' split
    all_goals omega
  refine ⟨h5, ?_, ?_⟩
  · unfold own_hi
    rw [Int64.lt_iff_toInt_lt]
    split
    · omega
    · rename_i q
      have : (own_minL a.toInt64 b.toInt64).toInt ≠ (own_maxL a.toInt64 b.toInt64).toInt := fun z => q (Int64.toInt_inj.mp z)
      omega
  · unfold own_hi; split <;> omega
theorem own_lo53 (a b : Int32) : B53 (own_minL a.toInt64 b.toInt64) := by have := own_lh a b; exact ⟨by omega, by omega⟩
theorem own_hi53 (a b : Int32) : B53 (own_hi a.toInt64 b.toInt64) := by
  have h := own_lh a b
  have := Int64.lt_iff_toInt_lt.mp h.2.1
  exact ⟨by omega, by omega⟩
theorem own_vv (u v : Int64) : (¬ lcmpW u v < (0 : Int32)) ↔ ¬ (0 : Int32) < lcmpW v u := by rw [lw_lt, lw_gt]
theorem own_max {a : UInt64} (h : Jvm.Free.Fl.Fin64 a) : ¬ (0 : Int32) < cmpValue (FP.dcmp (a &&& 0x7fffffffffffffff) 9218868437227405311) .g := by
  have q := (Jvm.Free.Fl.le_max_iff h.noNaN).mpr h
  have e : Jvm.Free.Fl.maxD = 9218868437227405311 := rfl
  rw [e] at q
  revert q
  generalize FP.dcmp (a &&& 0x7fffffffffffffff) 9218868437227405311 = r
  intro q
  rcases r with _ | (_ | _ | _)
  · exact absurd q (by decide)
  · decide
  · decide
  · exact absurd q (by decide)

theorem d2_0 : decode jdk_29_method_66_code 0 = .ok (.lload_n 0, 1) := by decide +kernel
theorem d2_1 : decode jdk_29_method_66_code 1 = .ok (.lload_n 2, 1) := by decide +kernel
theorem d2_2 : decode jdk_29_method_66_code 2 = .ok (.lcmp, 1) := by decide +kernel
theorem d2_3 : decode jdk_29_method_66_code 3 = .ok (.ifCond .lt 7, 3) := by decide +kernel
theorem d2_6 : decode jdk_29_method_66_code 6 = .ok (.lload_n 0, 1) := by decide +kernel
theorem d2_7 : decode jdk_29_method_66_code 7 = .ok (.goto 4, 3) := by decide +kernel
theorem d2_10 : decode jdk_29_method_66_code 10 = .ok (.lload_n 2, 1) := by decide +kernel
theorem d2_11 : decode jdk_29_method_66_code 11 = .ok (.lreturn, 1) := by decide +kernel
theorem pd__40_JJ_41_J : parseMethodDescriptor "(JJ)J" = some ⟨[.long, .long], some .long⟩ := by decide +kernel
theorem pd__40_JJJ_41_Z : parseMethodDescriptor "(JJJ)Z" = some ⟨[.long, .long, .long], some .boolean⟩ := by decide +kernel
theorem pd__40_DDDD_41_V : parseMethodDescriptor "(DDDD)V" = some ⟨[.double, .double, .double, .double], none⟩ := by decide +kernel
theorem pd__40__41_V : parseMethodDescriptor "()V" = some ⟨[], none⟩ := by decide +kernel
theorem pd__40_D_41_Z : parseMethodDescriptor "(D)Z" = some ⟨[.double], some .boolean⟩ := by decide +kernel
theorem pd__40_D_41_D : parseMethodDescriptor "(D)D" = some ⟨[.double], some .double⟩ := by decide +kernel
theorem pd__40_DD_41_Z : parseMethodDescriptor "(DD)Z" = some ⟨[.double, .double], some .boolean⟩ := by decide +kernel
theorem ef_2 (m : MethodId) (x0 : Int64) (x1 : Int64) : entryFrame m #[(.long x0), (.long x1)] 4 = mkF m 0 #[.val (.long x0), .second, .val (.long x1), .second] [] := by first | (simp [entryFrame, mkF, argsToLocals, Value.category]; done) | rfl
def Q2 (Z : State) (q1 : Int64) (q2 : Int64) (h0 : Heap) (n0 : Nat) (v : Option Value) (h : Heap) (L : List Loc) : Prop := v = some (.long (own_maxL q1 q2)) ∧ Fr n0 L ∧ h = h0
set_option maxRecDepth 65536 in
set_option maxHeartbeats 40000000 in
theorem rm2 (l : Launch) (Z : State) (a0 : Array Value) (hw : ∀ d ∈ tables_1, d.before a0 Z = true) (ws : List Jvm.Cond) (q1 : Int64) (q2 : Int64) (h0 : Heap) (n0 : Nat) (Z0 : n0 ≤ h0.size)  :
    MetFree l (⟨"java/lang/Math", "max", "(JJ)J"⟩ : MethodName) (head1 (Jvm.Cond.code (⟨"java/lang/Math", "max", "(JJ)J"⟩ : MethodName) jdk_29_method_66_code 4 (some .long) :: ws) ({ frames := 0, cells := 0, slots := 0, locals := 0 } : Room)) (fun a U => a = #[(.long q1), (.long q2)] ∧ Z.Warmed39 U.vm ∧ U.heap = h0) (fun _ _ _ _ _ => True) (fun _ U o U' => ∃ v L, o = .returned v ∧ Q2 Z q1 q2 h0 n0 v U'.heap L ∧ FrameEnd U o U' L ({ frames := 0, cells := 0, slots := 0, locals := 0 } : Room).cells ({ frames := 0, cells := 0, slots := 0, locals := 0 } : Room).slots) := by
  refine MetFree.of_bodySF (Jvm.Free.JP.mathPlain rfl (by decide +kernel)) hisR ?_
  intro p e s m args below meth c s₁ Bd hml0 hP hK
  obtain ⟨rfl, hZ, hh⟩ := hP
  have hx := Bd.exec
  have hby := Bd.bytes
  have hlk : meth.locks = false := BodyLoose.notSynchronized Bd
  have hml : c.maxLocals = 4 := hml0
  have hown : s.vm.findClass "java/lang/Math" = some m.cls := findClass_of_methodNamed Bd.named
  have hnm := (name_of_methodNamed Bd.named Bd.method).1
  have X0 : Stand p l e ({ frames := 0, cells := 0, slots := 0, locals := 0 } : Room) s m #[(.long q1), (.long q2)] below meth c s₁ [] 0 0 := Stand.of_body Bd
  have e0 : s₁.heap = h0 := by rw [← hh, Bd.state]; rfl
  have N0 := Fr.nil n0
  show Go p.tables e below s (Q2 Z q1 q2 h0 n0) ({ frames := 0, cells := 0, slots := 0, locals := 0 } : Room).cells ({ frames := 0, cells := 0, slots := 0, locals := 0 } : Room).slots (s₁.setTop (entryFrame m #[(.long q1), (.long q2)] 4))
  refine Go.on (fun t k => castTop (ef_2 m q1 q2) k) ?_
  show Go p.tables e below s _ _ _ (s₁.setTop (mkF m 0 #[.val (.long q1), .second, .val (.long q2), .second] []))
  refine Go.on (fun t k => XS.lloadN X0.here hx rfl (hb hby d2_0) rfl k) ?_
  show Go p.tables e below s _ _ _ (s₁.setTop (mkF m 1 #[.val (.long q1), .second, .val (.long q2), .second] [(.long q1)]))
  refine Go.on (fun t k => XS.lloadN X0.here hx rfl (hb hby d2_1) rfl k) ?_
  show Go p.tables e below s _ _ _ (s₁.setTop (mkF m 2 #[.val (.long q1), .second, .val (.long q2), .second] [(.long q2), (.long q1)]))
  refine Go.on (fun t k => XS.lcmp X0.here hx rfl (hb hby d2_2) rfl k) ?_
  show Go p.tables e below s _ _ _ (s₁.setTop (mkF m 3 #[.val (.long q1), .second, .val (.long q2), .second] [(.int (lcmpW q1 q2))]))
  by_cases hc3_1 : (lcmpW q1 q2) < (0 : Int32)
  · refine Go.on (fun t k => XS.ifYes X0.here hx rfl (pc0 := 3) (pc' := 10) rfl (hb hby d2_3) rfl ((if0 _ _).trans (tlt hc3_1).1) (by decide) (by decide) k) ?_
    show Go p.tables e below s _ _ _ (s₁.setTop (mkF m 10 #[.val (.long q1), .second, .val (.long q2), .second] []))
    refine Go.on (fun t k => XS.lloadN X0.here hx rfl (hb hby d2_10) rfl k) ?_
    show Go p.tables e below s _ _ _ (s₁.setTop (mkF m 11 #[.val (.long q1), .second, .val (.long q2), .second] [(.long q2)]))
    refine Go.retJ X0 hx hlk Bd.returns (hb hby d2_11) (by decide) (by decide) e0 ?_
    exact ⟨(by rw [own_maxL, if_pos]; exact (lw_lt _ _).mp hc3_1), N0, rfl⟩
  · refine Go.on (fun t k => XS.ifNo X0.here hx rfl (hb hby d2_3) rfl ((if0 _ _).trans (flt hc3_1).1) k) ?_
    show Go p.tables e below s _ _ _ (s₁.setTop (mkF m 6 #[.val (.long q1), .second, .val (.long q2), .second] []))
    refine Go.on (fun t k => XS.lloadN X0.here hx rfl (hb hby d2_6) rfl k) ?_
    show Go p.tables e below s _ _ _ (s₁.setTop (mkF m 7 #[.val (.long q1), .second, .val (.long q2), .second] [(.long q1)]))
    refine Go.on (fun t k => XS.goto X0.here hx rfl (pc0 := 7) (pc' := 11) rfl (hb hby d2_7) (by decide) (by decide) k) ?_
    show Go p.tables e below s _ _ _ (s₁.setTop (mkF m 11 #[.val (.long q1), .second, .val (.long q2), .second] [(.long q1)]))
    refine Go.retJ X0 hx hlk Bd.returns (hb hby d2_11) (by decide) (by decide) e0 ?_
    exact ⟨(by rw [own_maxL, if_neg]; exact fun q => hc3_1 ((lw_lt _ _).mpr q)), N0, rfl⟩
theorem d1_0 : decode jdk_29_method_70_code 0 = .ok (.lload_n 0, 1) := by decide +kernel
theorem d1_1 : decode jdk_29_method_70_code 1 = .ok (.lload_n 2, 1) := by decide +kernel
theorem d1_2 : decode jdk_29_method_70_code 2 = .ok (.lcmp, 1) := by decide +kernel
theorem d1_3 : decode jdk_29_method_70_code 3 = .ok (.ifCond .gt 7, 3) := by decide +kernel
theorem d1_6 : decode jdk_29_method_70_code 6 = .ok (.lload_n 0, 1) := by decide +kernel
theorem d1_7 : decode jdk_29_method_70_code 7 = .ok (.goto 4, 3) := by decide +kernel
theorem d1_10 : decode jdk_29_method_70_code 10 = .ok (.lload_n 2, 1) := by decide +kernel
theorem d1_11 : decode jdk_29_method_70_code 11 = .ok (.lreturn, 1) := by decide +kernel
theorem ef_1 (m : MethodId) (x0 : Int64) (x1 : Int64) : entryFrame m #[(.long x0), (.long x1)] 4 = mkF m 0 #[.val (.long x0), .second, .val (.long x1), .second] [] := by first | (simp [entryFrame, mkF, argsToLocals, Value.category]; done) | rfl
def Q1 (Z : State) (q1 : Int64) (q2 : Int64) (h0 : Heap) (n0 : Nat) (v : Option Value) (h : Heap) (L : List Loc) : Prop := v = some (.long (own_minL q1 q2)) ∧ Fr n0 L ∧ h = h0
set_option maxRecDepth 65536 in
set_option maxHeartbeats 40000000 in
theorem rm1 (l : Launch) (Z : State) (a0 : Array Value) (hw : ∀ d ∈ tables_1, d.before a0 Z = true) (ws : List Jvm.Cond) (q1 : Int64) (q2 : Int64) (h0 : Heap) (n0 : Nat) (Z0 : n0 ≤ h0.size)  :
    MetFree l (⟨"java/lang/Math", "min", "(JJ)J"⟩ : MethodName) (head1 (Jvm.Cond.code (⟨"java/lang/Math", "min", "(JJ)J"⟩ : MethodName) jdk_29_method_70_code 4 (some .long) :: ws) ({ frames := 0, cells := 0, slots := 0, locals := 0 } : Room)) (fun a U => a = #[(.long q1), (.long q2)] ∧ Z.Warmed39 U.vm ∧ U.heap = h0) (fun _ _ _ _ _ => True) (fun _ U o U' => ∃ v L, o = .returned v ∧ Q1 Z q1 q2 h0 n0 v U'.heap L ∧ FrameEnd U o U' L ({ frames := 0, cells := 0, slots := 0, locals := 0 } : Room).cells ({ frames := 0, cells := 0, slots := 0, locals := 0 } : Room).slots) := by
  refine MetFree.of_bodySF (Jvm.Free.JP.mathPlain rfl (by decide +kernel)) hisR ?_
  intro p e s m args below meth c s₁ Bd hml0 hP hK
  obtain ⟨rfl, hZ, hh⟩ := hP
  have hx := Bd.exec
  have hby := Bd.bytes
  have hlk : meth.locks = false := BodyLoose.notSynchronized Bd
  have hml : c.maxLocals = 4 := hml0
  have hown : s.vm.findClass "java/lang/Math" = some m.cls := findClass_of_methodNamed Bd.named
  have hnm := (name_of_methodNamed Bd.named Bd.method).1
  have X0 : Stand p l e ({ frames := 0, cells := 0, slots := 0, locals := 0 } : Room) s m #[(.long q1), (.long q2)] below meth c s₁ [] 0 0 := Stand.of_body Bd
  have e0 : s₁.heap = h0 := by rw [← hh, Bd.state]; rfl
  have N0 := Fr.nil n0
  show Go p.tables e below s (Q1 Z q1 q2 h0 n0) ({ frames := 0, cells := 0, slots := 0, locals := 0 } : Room).cells ({ frames := 0, cells := 0, slots := 0, locals := 0 } : Room).slots (s₁.setTop (entryFrame m #[(.long q1), (.long q2)] 4))
  refine Go.on (fun t k => castTop (ef_1 m q1 q2) k) ?_
  show Go p.tables e below s _ _ _ (s₁.setTop (mkF m 0 #[.val (.long q1), .second, .val (.long q2), .second] []))
  refine Go.on (fun t k => XS.lloadN X0.here hx rfl (hb hby d1_0) rfl k) ?_
  show Go p.tables e below s _ _ _ (s₁.setTop (mkF m 1 #[.val (.long q1), .second, .val (.long q2), .second] [(.long q1)]))
  refine Go.on (fun t k => XS.lloadN X0.here hx rfl (hb hby d1_1) rfl k) ?_
  show Go p.tables e below s _ _ _ (s₁.setTop (mkF m 2 #[.val (.long q1), .second, .val (.long q2), .second] [(.long q2), (.long q1)]))
  refine Go.on (fun t k => XS.lcmp X0.here hx rfl (hb hby d1_2) rfl k) ?_
  show Go p.tables e below s _ _ _ (s₁.setTop (mkF m 3 #[.val (.long q1), .second, .val (.long q2), .second] [(.int (lcmpW q1 q2))]))
  by_cases hc3_1 : (0 : Int32) < (lcmpW q1 q2)
  · refine Go.on (fun t k => XS.ifYes X0.here hx rfl (pc0 := 3) (pc' := 10) rfl (hb hby d1_3) rfl ((if0 _ _).trans (tlt hc3_1).2.2.1) (by decide) (by decide) k) ?_
    show Go p.tables e below s _ _ _ (s₁.setTop (mkF m 10 #[.val (.long q1), .second, .val (.long q2), .second] []))
    refine Go.on (fun t k => XS.lloadN X0.here hx rfl (hb hby d1_10) rfl k) ?_
    show Go p.tables e below s _ _ _ (s₁.setTop (mkF m 11 #[.val (.long q1), .second, .val (.long q2), .second] [(.long q2)]))
    refine Go.retJ X0 hx hlk Bd.returns (hb hby d1_11) (by decide) (by decide) e0 ?_
    exact ⟨(by rw [own_minL, if_pos]; exact (lw_gt _ _).mp hc3_1), N0, rfl⟩
  · refine Go.on (fun t k => XS.ifNo X0.here hx rfl (hb hby d1_3) rfl ((if0 _ _).trans (flt hc3_1).2.2.1) k) ?_
    show Go p.tables e below s _ _ _ (s₁.setTop (mkF m 6 #[.val (.long q1), .second, .val (.long q2), .second] []))
    refine Go.on (fun t k => XS.lloadN X0.here hx rfl (hb hby d1_6) rfl k) ?_
    show Go p.tables e below s _ _ _ (s₁.setTop (mkF m 7 #[.val (.long q1), .second, .val (.long q2), .second] [(.long q1)]))
    refine Go.on (fun t k => XS.goto X0.here hx rfl (pc0 := 7) (pc' := 11) rfl (hb hby d1_7) (by decide) (by decide) k) ?_
    show Go p.tables e below s _ _ _ (s₁.setTop (mkF m 11 #[.val (.long q1), .second, .val (.long q2), .second] [(.long q1)]))
    refine Go.retJ X0 hx hlk Bd.returns (hb hby d1_11) (by decide) (by decide) e0 ?_
    exact ⟨(by rw [own_minL, if_neg]; exact fun q => hc3_1 ((lw_gt _ _).mpr q)), N0, rfl⟩
theorem d3_0 : decode method_2_code 0 = .ok (.lload 4, 2) := by decide +kernel
theorem d3_2 : decode method_2_code 2 = .ok (.lload_n 0, 1) := by decide +kernel
theorem d3_3 : decode method_2_code 3 = .ok (.lcmp, 1) := by decide +kernel
theorem d3_4 : decode method_2_code 4 = .ok (.ifCond .ge 5, 3) := by decide +kernel
theorem d3_7 : decode method_2_code 7 = .ok (.iconst 0, 1) := by decide +kernel
theorem d3_8 : decode method_2_code 8 = .ok (.ireturn, 1) := by decide +kernel
theorem d3_9 : decode method_2_code 9 = .ok (.lload 4, 2) := by decide +kernel
theorem d3_11 : decode method_2_code 11 = .ok (.lload_n 2, 1) := by decide +kernel
theorem d3_12 : decode method_2_code 12 = .ok (.lcmp, 1) := by decide +kernel
theorem d3_13 : decode method_2_code 13 = .ok (.ifCond .le 5, 3) := by decide +kernel
theorem d3_16 : decode method_2_code 16 = .ok (.iconst 0, 1) := by decide +kernel
theorem d3_17 : decode method_2_code 17 = .ok (.ireturn, 1) := by decide +kernel
theorem d3_18 : decode method_2_code 18 = .ok (.iconst 1, 1) := by decide +kernel
theorem d3_19 : decode method_2_code 19 = .ok (.ireturn, 1) := by decide +kernel
theorem ef_3 (m : MethodId) (x0 : Int64) (x1 : Int64) (x2 : Int64) : entryFrame m #[(.long x0), (.long x1), (.long x2)] 6 = mkF m 0 #[.val (.long x0), .second, .val (.long x1), .second, .val (.long x2), .second] [] := by first | (simp [entryFrame, mkF, argsToLocals, Value.category]; done) | rfl
def Q3 (Z : State) (q1 : Int64) (q2 : Int64) (q3 : Int64) (h0 : Heap) (n0 : Nat) (v : Option Value) (h : Heap) (L : List Loc) : Prop := v = some (.int (own_b (¬ lcmpW q3 q1 < (0 : Int32) ∧ ¬ (0 : Int32) < lcmpW q3 q2))) ∧ Fr n0 L ∧ h = h0
theorem pn_com_example_gridshift_gridshift_SpaceContainsPinLaw : plainName "com/example/gridshift/gridshift/SpaceContainsPinLaw" = true := by first | (simp [plainName, overriddenIn]; done) | decide +kernel
set_option maxRecDepth 65536 in
set_option maxHeartbeats 40000000 in
theorem rm3 (l : Launch) (Z : State) (a0 : Array Value) (hw : ∀ d ∈ tables_1, d.before a0 Z = true) (ws : List Jvm.Cond) (q1 : Int64) (q2 : Int64) (q3 : Int64) (h0 : Heap) (n0 : Nat) (Z0 : n0 ≤ h0.size)  :
    MetFree l (⟨"com/example/gridshift/gridshift/SpaceContainsPinLaw", "within", "(JJJ)Z"⟩ : MethodName) (head1 (Jvm.Cond.code (⟨"com/example/gridshift/gridshift/SpaceContainsPinLaw", "within", "(JJJ)Z"⟩ : MethodName) method_2_code 6 (some .boolean) :: ws) ({ frames := 0, cells := 0, slots := 0, locals := 0 } : Room)) (fun a U => a = #[(.long q1), (.long q2), (.long q3)] ∧ Z.Warmed39 U.vm ∧ U.heap = h0) (fun _ _ _ _ _ => True) (fun _ U o U' => ∃ v L, o = .returned v ∧ Q3 Z q1 q2 q3 h0 n0 v U'.heap L ∧ FrameEnd U o U' L ({ frames := 0, cells := 0, slots := 0, locals := 0 } : Room).cells ({ frames := 0, cells := 0, slots := 0, locals := 0 } : Room).slots) := by
  refine MetFree.of_bodySF (plainFor_of_name pn_com_example_gridshift_gridshift_SpaceContainsPinLaw) hisR ?_
  intro p e s m args below meth c s₁ Bd hml0 hP hK
  obtain ⟨rfl, hZ, hh⟩ := hP
  have hx := Bd.exec
  have hby := Bd.bytes
  have hlk : meth.locks = false := BodyLoose.notSynchronized Bd
  have hml : c.maxLocals = 6 := hml0
  have hown : s.vm.findClass "com/example/gridshift/gridshift/SpaceContainsPinLaw" = some m.cls := findClass_of_methodNamed Bd.named
  have hnm := (name_of_methodNamed Bd.named Bd.method).1
  have X0 : Stand p l e ({ frames := 0, cells := 0, slots := 0, locals := 0 } : Room) s m #[(.long q1), (.long q2), (.long q3)] below meth c s₁ [] 0 0 := Stand.of_body Bd
  have e0 : s₁.heap = h0 := by rw [← hh, Bd.state]; rfl
  have N0 := Fr.nil n0
  show Go p.tables e below s (Q3 Z q1 q2 q3 h0 n0) ({ frames := 0, cells := 0, slots := 0, locals := 0 } : Room).cells ({ frames := 0, cells := 0, slots := 0, locals := 0 } : Room).slots (s₁.setTop (entryFrame m #[(.long q1), (.long q2), (.long q3)] 6))
  refine Go.on (fun t k => castTop (ef_3 m q1 q2 q3) k) ?_
  show Go p.tables e below s _ _ _ (s₁.setTop (mkF m 0 #[.val (.long q1), .second, .val (.long q2), .second, .val (.long q3), .second] []))
  refine Go.on (fun t k => XS.lload X0.here hx rfl (hb hby d3_0) rfl k) ?_
  show Go p.tables e below s _ _ _ (s₁.setTop (mkF m 2 #[.val (.long q1), .second, .val (.long q2), .second, .val (.long q3), .second] [(.long q3)]))
  refine Go.on (fun t k => XS.lloadN X0.here hx rfl (hb hby d3_2) rfl k) ?_
  show Go p.tables e below s _ _ _ (s₁.setTop (mkF m 3 #[.val (.long q1), .second, .val (.long q2), .second, .val (.long q3), .second] [(.long q1), (.long q3)]))
  refine Go.on (fun t k => XS.lcmp X0.here hx rfl (hb hby d3_3) rfl k) ?_
  show Go p.tables e below s _ _ _ (s₁.setTop (mkF m 4 #[.val (.long q1), .second, .val (.long q2), .second, .val (.long q3), .second] [(.int (lcmpW q3 q1))]))
  by_cases hc4_1 : (lcmpW q3 q1) < (0 : Int32)
  · refine Go.on (fun t k => XS.ifNo X0.here hx rfl (hb hby d3_4) rfl ((if0 _ _).trans (tlt hc4_1).2.1) k) ?_
    show Go p.tables e below s _ _ _ (s₁.setTop (mkF m 7 #[.val (.long q1), .second, .val (.long q2), .second, .val (.long q3), .second] []))
    refine Go.on (fun t k => XS.iconst X0.here hx rfl (hb hby d3_7) k) ?_
    show Go p.tables e below s _ _ _ (s₁.setTop (mkF m 8 #[.val (.long q1), .second, .val (.long q2), .second, .val (.long q3), .second] [(.int (0 : Int32))]))
    refine Go.retN X0 hx hlk (t := .boolean) Bd.returns (by simp) (hb hby d3_8) (by decide) (by decide) e0 ?_
    exact ⟨(by rw [own_bf (fun q => q.1 hc4_1)]; rfl), N0, rfl⟩
  · refine Go.on (fun t k => XS.ifYes X0.here hx rfl (pc0 := 4) (pc' := 9) rfl (hb hby d3_4) rfl ((if0 _ _).trans (flt hc4_1).2.1) (by decide) (by decide) k) ?_
    show Go p.tables e below s _ _ _ (s₁.setTop (mkF m 9 #[.val (.long q1), .second, .val (.long q2), .second, .val (.long q3), .second] []))
    refine Go.on (fun t k => XS.lload X0.here hx rfl (hb hby d3_9) rfl k) ?_
    show Go p.tables e below s _ _ _ (s₁.setTop (mkF m 11 #[.val (.long q1), .second, .val (.long q2), .second, .val (.long q3), .second] [(.long q3)]))
    refine Go.on (fun t k => XS.lloadN X0.here hx rfl (hb hby d3_11) rfl k) ?_
    show Go p.tables e below s _ _ _ (s₁.setTop (mkF m 12 #[.val (.long q1), .second, .val (.long q2), .second, .val (.long q3), .second] [(.long q2), (.long q3)]))
    refine Go.on (fun t k => XS.lcmp X0.here hx rfl (hb hby d3_12) rfl k) ?_
    show Go p.tables e below s _ _ _ (s₁.setTop (mkF m 13 #[.val (.long q1), .second, .val (.long q2), .second, .val (.long q3), .second] [(.int (lcmpW q3 q2))]))
    by_cases hc13_2 : (0 : Int32) < (lcmpW q3 q2)
    · refine Go.on (fun t k => XS.ifNo X0.here hx rfl (hb hby d3_13) rfl ((if0 _ _).trans (tlt hc13_2).2.2.2) k) ?_
      show Go p.tables e below s _ _ _ (s₁.setTop (mkF m 16 #[.val (.long q1), .second, .val (.long q2), .second, .val (.long q3), .second] []))
      refine Go.on (fun t k => XS.iconst X0.here hx rfl (hb hby d3_16) k) ?_
      show Go p.tables e below s _ _ _ (s₁.setTop (mkF m 17 #[.val (.long q1), .second, .val (.long q2), .second, .val (.long q3), .second] [(.int (0 : Int32))]))
      refine Go.retN X0 hx hlk (t := .boolean) Bd.returns (by simp) (hb hby d3_17) (by decide) (by decide) e0 ?_
      exact ⟨(by rw [own_bf (fun q => q.2 hc13_2)]; rfl), N0, rfl⟩
    · refine Go.on (fun t k => XS.ifYes X0.here hx rfl (pc0 := 13) (pc' := 18) rfl (hb hby d3_13) rfl ((if0 _ _).trans (flt hc13_2).2.2.2) (by decide) (by decide) k) ?_
      show Go p.tables e below s _ _ _ (s₁.setTop (mkF m 18 #[.val (.long q1), .second, .val (.long q2), .second, .val (.long q3), .second] []))
      refine Go.on (fun t k => XS.iconst X0.here hx rfl (hb hby d3_18) k) ?_
      show Go p.tables e below s _ _ _ (s₁.setTop (mkF m 19 #[.val (.long q1), .second, .val (.long q2), .second, .val (.long q3), .second] [(.int (1 : Int32))]))
      refine Go.retN X0 hx hlk (t := .boolean) Bd.returns (by simp) (hb hby d3_19) (by decide) (by decide) e0 ?_
      exact ⟨(by rw [own_bt ⟨hc4_1, hc13_2⟩]; rfl), N0, rfl⟩
theorem d5_0 : decode jdk_30_method_1_code 0 = .ok (.aload_n 0, 1) := by decide +kernel
theorem d5_1 : decode jdk_30_method_1_code 1 = .ok (.invokespecial 1, 3) := by decide +kernel
theorem d5_4 : decode jdk_30_method_1_code 4 = .ok (.return_, 1) := by decide +kernel
theorem ef_5 (m : MethodId) (x0 : Addr) : entryFrame m #[(.ref x0)] 1 = mkF m 0 #[.val (.ref x0)] [] := by first | (simp [entryFrame, mkF, argsToLocals, Value.category]; done) | rfl
def Q5 (Z : State) (a1 : Addr) (h0 : Heap) (n0 : Nat) (v : Option Value) (h : Heap) (L : List Loc) : Prop := v = none ∧ Fr n0 L ∧ h = h0
theorem pn_java_lang_Record : plainName "java/lang/Record" = true := by first | (simp [plainName, overriddenIn]; done) | decide +kernel
set_option maxRecDepth 65536 in
set_option maxHeartbeats 40000000 in
theorem rm5 (l : Launch) (Z : State) (a0 : Array Value) (hw : ∀ d ∈ tables_1, d.before a0 Z = true) (ws : List Jvm.Cond) (a1 : Addr) (h0 : Heap) (n0 : Nat) (Z0 : n0 ≤ h0.size)  :
    MetFree l (⟨"java/lang/Record", "<init>", "()V"⟩ : MethodName) (head1 (Jvm.Cond.code (⟨"java/lang/Record", "<init>", "()V"⟩ : MethodName) jdk_30_method_1_code 1 none :: ws) ({ frames := 1, cells := 0, slots := 0, locals := 12 } : Room)) (fun a U => a = #[(.ref a1)] ∧ Z.Warmed39 U.vm ∧ U.heap = h0) (fun _ _ _ _ _ => True) (fun _ U o U' => ∃ v L, o = .returned v ∧ Q5 Z a1 h0 n0 v U'.heap L ∧ FrameEnd U o U' L ({ frames := 1, cells := 0, slots := 0, locals := 12 } : Room).cells ({ frames := 1, cells := 0, slots := 0, locals := 12 } : Room).slots) := by
  refine MetFree.of_bodySF (plainFor_of_name pn_java_lang_Record) hisR ?_
  intro p e s m args below meth c s₁ Bd hml0 hP hK
  obtain ⟨rfl, hZ, hh⟩ := hP
  have hx := Bd.exec
  have hby := Bd.bytes
  have hlk : meth.locks = false := BodyLoose.notSynchronized Bd
  have hml : c.maxLocals = 1 := hml0
  have hown : s.vm.findClass "java/lang/Record" = some m.cls := findClass_of_methodNamed Bd.named
  have hnm := (name_of_methodNamed Bd.named Bd.method).1
  have X0 : Stand p l e ({ frames := 1, cells := 0, slots := 0, locals := 12 } : Room) s m #[(.ref a1)] below meth c s₁ [] 0 0 := Stand.of_body Bd
  have e0 : s₁.heap = h0 := by rw [← hh, Bd.state]; rfl
  have N0 := Fr.nil n0
  show Go p.tables e below s (Q5 Z a1 h0 n0) ({ frames := 1, cells := 0, slots := 0, locals := 12 } : Room).cells ({ frames := 1, cells := 0, slots := 0, locals := 12 } : Room).slots (s₁.setTop (entryFrame m #[(.ref a1)] 1))
  refine Go.on (fun t k => castTop (ef_5 m a1) k) ?_
  show Go p.tables e below s _ _ _ (s₁.setTop (mkF m 0 #[.val (.ref a1)] []))
  refine Go.on (fun t k => XS.aloadN X0.here hx rfl (hb hby d5_0) rfl rfl k) ?_
  show Go p.tables e below s _ _ _ (s₁.setTop (mkF m 1 #[.val (.ref a1)] [(.ref a1)]))
  obtain ⟨T1, X1, e1, st1⟩ := initO X0 hx hZ hown (hw _ (List.mem_of_getElem? (i := 22) rfl)) (hw _ (List.mem_of_getElem? (i := 23) rfl)) (hw _ (List.mem_of_getElem? (i := 24) rfl)) e0 (g := (mkF m 1 #[.val (.ref a1)] [(.ref a1)])) rfl (by rw [hml]; rfl) rfl (hb hby d5_1) (by decide) (W := 0) (by show 2 * 0 + _ ≤ _; exact Nat.le_of_eq rfl) (by decide)
  refine Go.on st1 ?_
  show Go p.tables e below s _ _ _ (T1.setTop (mkF m 4 #[.val (.ref a1)] []))
  refine Go.retV X1 hx hlk Bd.returns (hb hby d5_4) (by decide) (by decide) e1 ?_
  exact ⟨rfl, N0, rfl⟩
theorem d7_0 : decode jdk_117_method_8_code 0 = .ok (.dload_n 0, 1) := by decide +kernel
theorem d7_1 : decode jdk_117_method_8_code 1 = .ok (.invokestatic 38, 3) := by decide +kernel
theorem d7_4 : decode jdk_117_method_8_code 4 = .ok (.ldc2_w 111, 3) := by decide +kernel
theorem d7_7 : decode jdk_117_method_8_code 7 = .ok (.dcmp .g, 1) := by decide +kernel
theorem d7_8 : decode jdk_117_method_8_code 8 = .ok (.ifCond .gt 7, 3) := by decide +kernel
theorem d7_11 : decode jdk_117_method_8_code 11 = .ok (.iconst 1, 1) := by decide +kernel
theorem d7_12 : decode jdk_117_method_8_code 12 = .ok (.goto 4, 3) := by decide +kernel
theorem d7_15 : decode jdk_117_method_8_code 15 = .ok (.iconst 0, 1) := by decide +kernel
theorem d7_16 : decode jdk_117_method_8_code 16 = .ok (.ireturn, 1) := by decide +kernel
theorem ef_7 (m : MethodId) (x0 : UInt64) : entryFrame m #[(.double x0)] 2 = mkF m 0 #[.val (.double x0), .second] [] := by first | (simp [entryFrame, mkF, argsToLocals, Value.category]; done) | rfl
def Q7 (Z : State) (d1 : UInt64) (h0 : Heap) (n0 : Nat) (v : Option Value) (h : Heap) (L : List Loc) : Prop := v = some (.int (1 : Int32)) ∧ Fr n0 L ∧ h = h0
theorem pn_java_lang_Double : plainName "java/lang/Double" = true := by first | (simp [plainName, overriddenIn]; done) | decide +kernel
set_option maxRecDepth 65536 in
set_option maxHeartbeats 40000000 in
theorem rm7 (l : Launch) (Z : State) (a0 : Array Value) (hw : ∀ d ∈ tables_1, d.before a0 Z = true) (ws : List Jvm.Cond) (d1 : UInt64) (h0 : Heap) (n0 : Nat) (Z0 : n0 ≤ h0.size) (hf : Jvm.Free.Fl.Fin64 d1) :
    MetFree l (⟨"java/lang/Double", "isFinite", "(D)Z"⟩ : MethodName) (head1 (Jvm.Cond.code (⟨"java/lang/Double", "isFinite", "(D)Z"⟩ : MethodName) jdk_117_method_8_code 2 (some .boolean) :: ws) ({ frames := 1, cells := 0, slots := 0, locals := 13 } : Room)) (fun a U => a = #[(.double d1)] ∧ Z.Warmed39 U.vm ∧ U.heap = h0) (fun _ _ _ _ _ => True) (fun _ U o U' => ∃ v L, o = .returned v ∧ Q7 Z d1 h0 n0 v U'.heap L ∧ FrameEnd U o U' L ({ frames := 1, cells := 0, slots := 0, locals := 13 } : Room).cells ({ frames := 1, cells := 0, slots := 0, locals := 13 } : Room).slots) := by
  refine MetFree.of_bodySF (plainFor_of_name pn_java_lang_Double) hisR ?_
  intro p e s m args below meth c s₁ Bd hml0 hP hK
  obtain ⟨rfl, hZ, hh⟩ := hP
  have hx := Bd.exec
  have hby := Bd.bytes
  have hlk : meth.locks = false := BodyLoose.notSynchronized Bd
  have hml : c.maxLocals = 2 := hml0
  have hown : s.vm.findClass "java/lang/Double" = some m.cls := findClass_of_methodNamed Bd.named
  have hnm := (name_of_methodNamed Bd.named Bd.method).1
  have X0 : Stand p l e ({ frames := 1, cells := 0, slots := 0, locals := 13 } : Room) s m #[(.double d1)] below meth c s₁ [] 0 0 := Stand.of_body Bd
  have e0 : s₁.heap = h0 := by rw [← hh, Bd.state]; rfl
  have N0 := Fr.nil n0
  show Go p.tables e below s (Q7 Z d1 h0 n0) ({ frames := 1, cells := 0, slots := 0, locals := 13 } : Room).cells ({ frames := 1, cells := 0, slots := 0, locals := 13 } : Room).slots (s₁.setTop (entryFrame m #[(.double d1)] 2))
  refine Go.on (fun t k => castTop (ef_7 m d1) k) ?_
  show Go p.tables e below s _ _ _ (s₁.setTop (mkF m 0 #[.val (.double d1), .second] []))
  refine Go.on (fun t k => XS.dloadN X0.here hx rfl (hb hby d7_0) rfl k) ?_
  show Go p.tables e below s _ _ _ (s₁.setTop (mkF m 1 #[.val (.double d1), .second] [(.double d1)]))
  obtain ⟨T1, X1, e1, st1⟩ := natS X0 hx hZ (y := (⟨"java/lang/Math", "abs", "(D)D"⟩ : MethodName)) hown (hw _ (List.mem_of_getElem? (i := 29) rfl)) (hw _ (List.mem_of_getElem? (i := 30) rfl)) (hw _ (List.mem_of_getElem? (i := 2) rfl)) (hw _ (List.mem_of_getElem? (i := 31) rfl)) (by decide) e0 (W := 0) (F := fun a' => a' = #[.double d1] ∧ Jvm.Free.Fl.NoNaN64 d1) (fun c4 => Jvm.Free.Fl.Abs.absD_pays d1 c4 (by decide) (by decide)) (g := (mkF m 1 #[.val (.double d1), .second] [(.double d1)])) rfl (by rw [hml]; rfl) (argsL := [(.double d1)]) (rest := []) (lenOf pd__40_D_41_D rfl) rfl (by show 2 * 0 + _ ≤ _; exact Nat.le_of_eq rfl) (hb hby d7_1) (by decide) (by decide) ⟨rfl, hf.noNaN⟩ rfl
  refine Go.on st1 ?_
  show Go p.tables e below s _ _ _ (T1.setTop (mkF m 4 #[.val (.double d1), .second] [(.double (d1 &&& 0x7fffffffffffffff))]))
  refine Go.on (fun t k => X1.ldc2DoubleC hx hown (mvT hZ (hw _ (List.mem_of_getElem? (i := 32) rfl))) (g := (mkF m 4 #[.val (.double d1), .second] [(.double (d1 &&& 0x7fffffffffffffff))])) rfl (hb hby d7_4) t k) ?_
  show Go p.tables e below s _ _ _ (T1.setTop (mkF m 7 #[.val (.double d1), .second] [(.double 9218868437227405311), (.double (d1 &&& 0x7fffffffffffffff))]))
  refine Go.on (fun t k => XS.dcmpS X1.here hx rfl (hb hby d7_7) rfl rfl k) ?_
  show Go p.tables e below s _ _ _ (T1.setTop (mkF m 8 #[.val (.double d1), .second] [(.int (cmpValue (FP.dcmp (d1 &&& 0x7fffffffffffffff) 9218868437227405311) .g))]))
  refine Go.on (fun t k => XS.ifNo X1.here hx rfl (hb hby d7_8) rfl ((if0 _ _).trans (flt (own_max hf)).2.2.1) k) ?_
  show Go p.tables e below s _ _ _ (T1.setTop (mkF m 11 #[.val (.double d1), .second] []))
  refine Go.on (fun t k => XS.iconst X1.here hx rfl (hb hby d7_11) k) ?_
  show Go p.tables e below s _ _ _ (T1.setTop (mkF m 12 #[.val (.double d1), .second] [(.int (1 : Int32))]))
  refine Go.on (fun t k => XS.goto X1.here hx rfl (pc0 := 12) (pc' := 16) rfl (hb hby d7_12) (by decide) (by decide) k) ?_
  show Go p.tables e below s _ _ _ (T1.setTop (mkF m 16 #[.val (.double d1), .second] [(.int (1 : Int32))]))
  refine Go.retN X1 hx hlk (t := .boolean) Bd.returns (by simp) (hb hby d7_16) (by decide) (by decide) e1 ?_
  exact ⟨rfl, N0, rfl⟩
theorem d4_0 : decode prog_73_method_1_code 0 = .ok (.aload_n 0, 1) := by decide +kernel
theorem d4_1 : decode prog_73_method_1_code 1 = .ok (.invokespecial 1, 3) := by decide +kernel
theorem d4_4 : decode prog_73_method_1_code 4 = .ok (.dload_n 1, 1) := by decide +kernel
theorem d4_5 : decode prog_73_method_1_code 5 = .ok (.invokestatic 7, 3) := by decide +kernel
theorem d4_8 : decode prog_73_method_1_code 8 = .ok (.ifCond .eq 26, 3) := by decide +kernel
theorem d4_11 : decode prog_73_method_1_code 11 = .ok (.dload_n 3, 1) := by decide +kernel
theorem d4_12 : decode prog_73_method_1_code 12 = .ok (.invokestatic 7, 3) := by decide +kernel
theorem d4_15 : decode prog_73_method_1_code 15 = .ok (.ifCond .eq 19, 3) := by decide +kernel
theorem d4_18 : decode prog_73_method_1_code 18 = .ok (.dload 5, 2) := by decide +kernel
theorem d4_20 : decode prog_73_method_1_code 20 = .ok (.invokestatic 7, 3) := by decide +kernel
theorem d4_23 : decode prog_73_method_1_code 23 = .ok (.ifCond .eq 11, 3) := by decide +kernel
theorem d4_26 : decode prog_73_method_1_code 26 = .ok (.dload 7, 2) := by decide +kernel
theorem d4_28 : decode prog_73_method_1_code 28 = .ok (.invokestatic 7, 3) := by decide +kernel
theorem d4_31 : decode prog_73_method_1_code 31 = .ok (.ifCond .ne 13, 3) := by decide +kernel
theorem d4_34 : decode prog_73_method_1_code 34 = .ok (.new 13, 3) := by decide +kernel
theorem d4_37 : decode prog_73_method_1_code 37 = .ok (.dup, 1) := by decide +kernel
theorem d4_38 : decode prog_73_method_1_code 38 = .ok (.ldc 15, 2) := by decide +kernel
theorem d4_40 : decode prog_73_method_1_code 40 = .ok (.invokespecial 17, 3) := by decide +kernel
theorem d4_43 : decode prog_73_method_1_code 43 = .ok (.athrow, 1) := by decide +kernel
theorem d4_44 : decode prog_73_method_1_code 44 = .ok (.dload_n 1, 1) := by decide +kernel
theorem d4_45 : decode prog_73_method_1_code 45 = .ok (.dload 5, 2) := by decide +kernel
theorem d4_47 : decode prog_73_method_1_code 47 = .ok (.dcmp .g, 1) := by decide +kernel
theorem d4_48 : decode prog_73_method_1_code 48 = .ok (.ifCond .lt 19, 3) := by decide +kernel
theorem d4_51 : decode prog_73_method_1_code 51 = .ok (.new 13, 3) := by decide +kernel
theorem d4_54 : decode prog_73_method_1_code 54 = .ok (.dup, 1) := by decide +kernel
theorem d4_55 : decode prog_73_method_1_code 55 = .ok (.dload_n 1, 1) := by decide +kernel
theorem d4_56 : decode prog_73_method_1_code 56 = .ok (.dload 5, 2) := by decide +kernel
theorem d4_58 : decode prog_73_method_1_code 58 = .ok (.invokedynamic 20, 5) := by decide +kernel
theorem d4_63 : decode prog_73_method_1_code 63 = .ok (.invokespecial 17, 3) := by decide +kernel
theorem d4_66 : decode prog_73_method_1_code 66 = .ok (.athrow, 1) := by decide +kernel
theorem d4_67 : decode prog_73_method_1_code 67 = .ok (.dload_n 3, 1) := by decide +kernel
theorem d4_68 : decode prog_73_method_1_code 68 = .ok (.dload 7, 2) := by decide +kernel
theorem d4_70 : decode prog_73_method_1_code 70 = .ok (.dcmp .g, 1) := by decide +kernel
theorem d4_71 : decode prog_73_method_1_code 71 = .ok (.ifCond .lt 19, 3) := by decide +kernel
theorem d4_74 : decode prog_73_method_1_code 74 = .ok (.new 13, 3) := by decide +kernel
theorem d4_77 : decode prog_73_method_1_code 77 = .ok (.dup, 1) := by decide +kernel
theorem d4_78 : decode prog_73_method_1_code 78 = .ok (.dload_n 3, 1) := by decide +kernel
theorem d4_79 : decode prog_73_method_1_code 79 = .ok (.dload 7, 2) := by decide +kernel
theorem d4_81 : decode prog_73_method_1_code 81 = .ok (.invokedynamic 24, 5) := by decide +kernel
theorem d4_86 : decode prog_73_method_1_code 86 = .ok (.invokespecial 17, 3) := by decide +kernel
theorem d4_89 : decode prog_73_method_1_code 89 = .ok (.athrow, 1) := by decide +kernel
theorem d4_90 : decode prog_73_method_1_code 90 = .ok (.aload_n 0, 1) := by decide +kernel
theorem d4_91 : decode prog_73_method_1_code 91 = .ok (.dload_n 1, 1) := by decide +kernel
theorem d4_92 : decode prog_73_method_1_code 92 = .ok (.putfield 25, 3) := by decide +kernel
theorem d4_95 : decode prog_73_method_1_code 95 = .ok (.aload_n 0, 1) := by decide +kernel
theorem d4_96 : decode prog_73_method_1_code 96 = .ok (.dload_n 3, 1) := by decide +kernel
theorem d4_97 : decode prog_73_method_1_code 97 = .ok (.putfield 31, 3) := by decide +kernel
theorem d4_100 : decode prog_73_method_1_code 100 = .ok (.aload_n 0, 1) := by decide +kernel
theorem d4_101 : decode prog_73_method_1_code 101 = .ok (.dload 5, 2) := by decide +kernel
theorem d4_103 : decode prog_73_method_1_code 103 = .ok (.putfield 34, 3) := by decide +kernel
theorem d4_106 : decode prog_73_method_1_code 106 = .ok (.aload_n 0, 1) := by decide +kernel
theorem d4_107 : decode prog_73_method_1_code 107 = .ok (.dload 7, 2) := by decide +kernel
theorem d4_109 : decode prog_73_method_1_code 109 = .ok (.putfield 37, 3) := by decide +kernel
theorem d4_112 : decode prog_73_method_1_code 112 = .ok (.return_, 1) := by decide +kernel
theorem ef_4 (m : MethodId) (x0 : Addr) (x1 : UInt64) (x2 : UInt64) (x3 : UInt64) (x4 : UInt64) : entryFrame m #[(.ref x0), (.double x1), (.double x2), (.double x3), (.double x4)] 9 = mkF m 0 #[.val (.ref x0), .val (.double x1), .second, .val (.double x2), .second, .val (.double x3), .second, .val (.double x4), .second] [] := by first | (simp [entryFrame, mkF, argsToLocals, Value.category]; done) | rfl
def Q4 (Z : State) (a1 : Addr) (d2 : UInt64) (d3 : UInt64) (d4 : UInt64) (d5 : UInt64) (u0 : Value) (u1 : Value) (u2 : Value) (u3 : Value) (c1 : Int64) (r1 : Int64) (c2 : Int64) (r2 : Int64) (h0 : Heap) (n0 : Nat) (v : Option Value) (h : Heap) (L : List Loc) : Prop := v = none ∧ Fr n0 L ∧ Keep h0 h [a1] ∧ Fld Z h a1 "com/example/gridshift/gridshift/Space" "minLon" "D" (.double (FP.l2d c1)) ∧ Fld Z h a1 "com/example/gridshift/gridshift/Space" "minLat" "D" (.double (FP.l2d r1)) ∧ Fld Z h a1 "com/example/gridshift/gridshift/Space" "maxLon" "D" (.double (FP.l2d c2)) ∧ Fld Z h a1 "com/example/gridshift/gridshift/Space" "maxLat" "D" (.double (FP.l2d r2))
theorem pn_com_example_gridshift_gridshift_Space : plainName "com/example/gridshift/gridshift/Space" = true := by first | (simp [plainName, overriddenIn]; done) | decide +kernel
set_option maxRecDepth 65536 in
set_option maxHeartbeats 40000000 in
theorem rm4 (l : Launch) (Z : State) (a0 : Array Value) (hw : ∀ d ∈ tables_1, d.before a0 Z = true) (ws : List Jvm.Cond) (a1 : Addr) (d2 : UInt64) (d3 : UInt64) (d4 : UInt64) (d5 : UInt64) (u0 : Value) (u1 : Value) (u2 : Value) (u3 : Value) (c1 : Int64) (r1 : Int64) (c2 : Int64) (r2 : Int64) (h0 : Heap) (n0 : Nat) (Z0 : n0 ≤ h0.size) (E_a1 : Exa Z h0 a1 "com/example/gridshift/gridshift/Space") (ge_a1 : n0 ≤ a1) (F_minLon_a1 : Fld Z h0 a1 "com/example/gridshift/gridshift/Space" "minLon" "D" u0) (F_minLat_a1 : Fld Z h0 a1 "com/example/gridshift/gridshift/Space" "minLat" "D" u1) (F_maxLon_a1 : Fld Z h0 a1 "com/example/gridshift/gridshift/Space" "maxLon" "D" u2) (F_maxLat_a1 : Fld Z h0 a1 "com/example/gridshift/gridshift/Space" "maxLat" "D" u3) (ec1 : d2 = FP.l2d c1) (er1 : d3 = FP.l2d r1) (ec2 : d4 = FP.l2d c2) (er2 : d5 = FP.l2d r2) (zbc1 : B53 c1) (zbr1 : B53 r1) (zbc2 : B53 c2) (zbr2 : B53 r2) (hc : c1 < c2) (hr : r1 < r2) :
    MetFree l (⟨"com/example/gridshift/gridshift/Space", "<init>", "(DDDD)V"⟩ : MethodName) (head1 (Jvm.Cond.code (⟨"com/example/gridshift/gridshift/Space", "<init>", "(DDDD)V"⟩ : MethodName) prog_73_method_1_code 9 none :: ws) ({ frames := 2, cells := 0, slots := 0, locals := 26 } : Room)) (fun a U => a = #[(.ref a1), (.double d2), (.double d3), (.double d4), (.double d5)] ∧ Z.Warmed39 U.vm ∧ U.heap = h0) (fun _ _ _ _ _ => True) (fun _ U o U' => ∃ v L, o = .returned v ∧ Q4 Z a1 d2 d3 d4 d5 u0 u1 u2 u3 c1 r1 c2 r2 h0 n0 v U'.heap L ∧ FrameEnd U o U' L ({ frames := 2, cells := 0, slots := 0, locals := 26 } : Room).cells ({ frames := 2, cells := 0, slots := 0, locals := 26 } : Room).slots) := by
  refine MetFree.of_bodySF (plainFor_of_name pn_com_example_gridshift_gridshift_Space) hisR ?_
  intro p e s m args below meth c s₁ Bd hml0 hP hK
  obtain ⟨rfl, hZ, hh⟩ := hP
  have hx := Bd.exec
  have hby := Bd.bytes
  have hlk : meth.locks = false := BodyLoose.notSynchronized Bd
  have hml : c.maxLocals = 9 := hml0
  have hown : s.vm.findClass "com/example/gridshift/gridshift/Space" = some m.cls := findClass_of_methodNamed Bd.named
  have hnm := (name_of_methodNamed Bd.named Bd.method).1
  have X0 : Stand p l e ({ frames := 2, cells := 0, slots := 0, locals := 26 } : Room) s m #[(.ref a1), (.double d2), (.double d3), (.double d4), (.double d5)] below meth c s₁ [] 0 0 := Stand.of_body Bd
  have e0 : s₁.heap = h0 := by rw [← hh, Bd.state]; rfl
  have N0 := Fr.nil n0
  show Go p.tables e below s (Q4 Z a1 d2 d3 d4 d5 u0 u1 u2 u3 c1 r1 c2 r2 h0 n0) ({ frames := 2, cells := 0, slots := 0, locals := 26 } : Room).cells ({ frames := 2, cells := 0, slots := 0, locals := 26 } : Room).slots (s₁.setTop (entryFrame m #[(.ref a1), (.double d2), (.double d3), (.double d4), (.double d5)] 9))
  refine Go.on (fun t k => castTop (ef_4 m a1 d2 d3 d4 d5) k) ?_
  show Go p.tables e below s _ _ _ (s₁.setTop (mkF m 0 #[.val (.ref a1), .val (.double d2), .second, .val (.double d3), .second, .val (.double d4), .second, .val (.double d5), .second] []))
  subst ec1 er1 ec2 er2
  show Go p.tables e below s _ _ _ (s₁.setTop (mkF m 0 #[.val (.ref a1), .val (.double (FP.l2d c1)), .second, .val (.double (FP.l2d r1)), .second, .val (.double (FP.l2d c2)), .second, .val (.double (FP.l2d r2)), .second] []))
  refine Go.on (fun t k => XS.aloadN X0.here hx rfl (hb hby d4_0) rfl rfl k) ?_
  show Go p.tables e below s _ _ _ (s₁.setTop (mkF m 1 #[.val (.ref a1), .val (.double (FP.l2d c1)), .second, .val (.double (FP.l2d r1)), .second, .val (.double (FP.l2d c2)), .second, .val (.double (FP.l2d r2)), .second] [(.ref a1)]))
  obtain ⟨_, _, ⟨T1, L1, k1, n1⟩, -, X1, ⟨Lc1, hQ1, l1, y1, z1⟩, st1⟩ := X0.specialBack hx (y := (⟨"java/lang/Record", "<init>", "()V"⟩ : MethodName)) rfl hown (mvT hZ (hw _ (List.mem_of_getElem? (i := 17) rfl))) (mvT hZ (hw _ (List.mem_of_getElem? (i := 18) rfl))) (mvT hZ (hw _ (List.mem_of_getElem? (i := 21) rfl))) (by decide) (backOf (W := 0) (rm5 l Z a0 hw [] a1 h0 n0 Z0 ) hZ (hw _ (List.mem_of_getElem? (i := 21) rfl)) (hw _ (List.mem_of_getElem? (i := 20) rfl)) (by decide) (by decide)) (g := (mkF m 1 #[.val (.ref a1), .val (.double (FP.l2d c1)), .second, .val (.double (FP.l2d r1)), .second, .val (.double (FP.l2d c2)), .second, .val (.double (FP.l2d r2)), .second] [(.ref a1)])) rfl (by rw [hml]; rfl) (Steps.refl _) (a := a1) (argsL := []) (rest := []) (lenOf pd__40__41_V rfl) rfl (by show 2 * 0 + _ ≤ _; exact Nat.le_of_eq rfl) (hb hby d4_1) (fun _ _ => ⟨rfl, e0, (by decide : 0 + 0 ≤ _), (by decide : 0 + 0 ≤ _)⟩)
  dsimp only [Pt.U, Pt.locs, Pt.cells, Pt.slots] at X1 l1 y1 z1 st1 hQ1
  rw [l1, y1, z1] at X1
  obtain ⟨rfl, Nq1, e1⟩ := hQ1
  have Np2 := Fr.app N0 Nq1
  refine Go.via st1 ?_
  show Go p.tables e below s _ _ _ (T1.setTop (mkF m 4 #[.val (.ref a1), .val (.double (FP.l2d c1)), .second, .val (.double (FP.l2d r1)), .second, .val (.double (FP.l2d c2)), .second, .val (.double (FP.l2d r2)), .second] []))
  refine Go.on (fun t k => XS.dloadN X1.here hx rfl (hb hby d4_4) rfl k) ?_
  show Go p.tables e below s _ _ _ (T1.setTop (mkF m 5 #[.val (.ref a1), .val (.double (FP.l2d c1)), .second, .val (.double (FP.l2d r1)), .second, .val (.double (FP.l2d c2)), .second, .val (.double (FP.l2d r2)), .second] [(.double (FP.l2d c1))]))
  obtain ⟨_, _, ⟨T3, L3, k3, n3⟩, -, X3, ⟨Lc3, hQ3, l3, y3, z3⟩, st3⟩ := Jvm.LawKit.callS X1 hx (y := (⟨"java/lang/Double", "isFinite", "(D)Z"⟩ : MethodName)) hown (mvT hZ (hw _ (List.mem_of_getElem? (i := 25) rfl))) (mvT hZ (hw _ (List.mem_of_getElem? (i := 26) rfl))) (mvT hZ (hw _ (List.mem_of_getElem? (i := 27) rfl))) (mvT hZ (hw _ (List.mem_of_getElem? (i := 28) rfl))) (by decide) (backOf (W := 0) (rm7 l Z a0 hw [] (FP.l2d c1) h0 n0 Z0 (Jvm.Free.Fl.l2d_fin _)) hZ (hw _ (List.mem_of_getElem? (i := 28) rfl)) (hw _ (List.mem_of_getElem? (i := 27) rfl)) (by decide) (by decide)) (g := (mkF m 5 #[.val (.ref a1), .val (.double (FP.l2d c1)), .second, .val (.double (FP.l2d r1)), .second, .val (.double (FP.l2d c2)), .second, .val (.double (FP.l2d r2)), .second] [(.double (FP.l2d c1))])) rfl (by rw [hml]; rfl) (argsL := [(.double (FP.l2d c1))]) (rest := []) (lenOf pd__40_D_41_Z rfl) rfl (by show 2 * 0 + _ ≤ _; exact Nat.le_of_eq rfl) (hb hby d4_5) (fun _ _ => ⟨rfl, e1, (by decide : (0 + 0) + 0 ≤ _), (by decide : (0 + 0) + 0 ≤ _)⟩)
  dsimp only [Pt.U, Pt.locs, Pt.cells, Pt.slots] at X3 l3 y3 z3 st3 hQ3
  rw [l3, y3, z3] at X3
  obtain ⟨rfl, Nq3, e3⟩ := hQ3
  have Np4 := Fr.app Np2 Nq3
  refine Go.on st3 ?_
  show Go p.tables e below s _ _ _ (T3.setTop (mkF m 8 #[.val (.ref a1), .val (.double (FP.l2d c1)), .second, .val (.double (FP.l2d r1)), .second, .val (.double (FP.l2d c2)), .second, .val (.double (FP.l2d r2)), .second] [(.int (1 : Int32))]))
  refine Go.on (fun t k => XS.ifNo X3.here hx rfl (hb hby d4_8) rfl ((if0 _ _).trans (feq (by decide : ¬ ((1 : Int32) = (0 : Int32)))).1) k) ?_
  show Go p.tables e below s _ _ _ (T3.setTop (mkF m 11 #[.val (.ref a1), .val (.double (FP.l2d c1)), .second, .val (.double (FP.l2d r1)), .second, .val (.double (FP.l2d c2)), .second, .val (.double (FP.l2d r2)), .second] []))
  refine Go.on (fun t k => XS.dloadN X3.here hx rfl (hb hby d4_11) rfl k) ?_
  show Go p.tables e below s _ _ _ (T3.setTop (mkF m 12 #[.val (.ref a1), .val (.double (FP.l2d c1)), .second, .val (.double (FP.l2d r1)), .second, .val (.double (FP.l2d c2)), .second, .val (.double (FP.l2d r2)), .second] [(.double (FP.l2d r1))]))
  obtain ⟨_, _, ⟨T5, L5, k5, n5⟩, -, X5, ⟨Lc5, hQ5, l5, y5, z5⟩, st5⟩ := Jvm.LawKit.callS X3 hx (y := (⟨"java/lang/Double", "isFinite", "(D)Z"⟩ : MethodName)) hown (mvT hZ (hw _ (List.mem_of_getElem? (i := 25) rfl))) (mvT hZ (hw _ (List.mem_of_getElem? (i := 26) rfl))) (mvT hZ (hw _ (List.mem_of_getElem? (i := 27) rfl))) (mvT hZ (hw _ (List.mem_of_getElem? (i := 28) rfl))) (by decide) (backOf (W := 0) (rm7 l Z a0 hw [] (FP.l2d r1) h0 n0 Z0 (Jvm.Free.Fl.l2d_fin _)) hZ (hw _ (List.mem_of_getElem? (i := 28) rfl)) (hw _ (List.mem_of_getElem? (i := 27) rfl)) (by decide) (by decide)) (g := (mkF m 12 #[.val (.ref a1), .val (.double (FP.l2d c1)), .second, .val (.double (FP.l2d r1)), .second, .val (.double (FP.l2d c2)), .second, .val (.double (FP.l2d r2)), .second] [(.double (FP.l2d r1))])) rfl (by rw [hml]; rfl) (argsL := [(.double (FP.l2d r1))]) (rest := []) (lenOf pd__40_D_41_Z rfl) rfl (by show 2 * 0 + _ ≤ _; exact Nat.le_of_eq rfl) (hb hby d4_12) (fun _ _ => ⟨rfl, e3, (by decide : ((0 + 0) + 0) + 0 ≤ _), (by decide : ((0 + 0) + 0) + 0 ≤ _)⟩)
  dsimp only [Pt.U, Pt.locs, Pt.cells, Pt.slots] at X5 l5 y5 z5 st5 hQ5
  rw [l5, y5, z5] at X5
  obtain ⟨rfl, Nq5, e5⟩ := hQ5
  have Np6 := Fr.app Np4 Nq5
  refine Go.on st5 ?_
  show Go p.tables e below s _ _ _ (T5.setTop (mkF m 15 #[.val (.ref a1), .val (.double (FP.l2d c1)), .second, .val (.double (FP.l2d r1)), .second, .val (.double (FP.l2d c2)), .second, .val (.double (FP.l2d r2)), .second] [(.int (1 : Int32))]))
  refine Go.on (fun t k => XS.ifNo X5.here hx rfl (hb hby d4_15) rfl ((if0 _ _).trans (feq (by decide : ¬ ((1 : Int32) = (0 : Int32)))).1) k) ?_
  show Go p.tables e below s _ _ _ (T5.setTop (mkF m 18 #[.val (.ref a1), .val (.double (FP.l2d c1)), .second, .val (.double (FP.l2d r1)), .second, .val (.double (FP.l2d c2)), .second, .val (.double (FP.l2d r2)), .second] []))
  refine Go.on (fun t k => XS.dload X5.here hx rfl (hb hby d4_18) rfl k) ?_
  show Go p.tables e below s _ _ _ (T5.setTop (mkF m 20 #[.val (.ref a1), .val (.double (FP.l2d c1)), .second, .val (.double (FP.l2d r1)), .second, .val (.double (FP.l2d c2)), .second, .val (.double (FP.l2d r2)), .second] [(.double (FP.l2d c2))]))
  obtain ⟨_, _, ⟨T7, L7, k7, n7⟩, -, X7, ⟨Lc7, hQ7, l7, y7, z7⟩, st7⟩ := Jvm.LawKit.callS X5 hx (y := (⟨"java/lang/Double", "isFinite", "(D)Z"⟩ : MethodName)) hown (mvT hZ (hw _ (List.mem_of_getElem? (i := 25) rfl))) (mvT hZ (hw _ (List.mem_of_getElem? (i := 26) rfl))) (mvT hZ (hw _ (List.mem_of_getElem? (i := 27) rfl))) (mvT hZ (hw _ (List.mem_of_getElem? (i := 28) rfl))) (by decide) (backOf (W := 0) (rm7 l Z a0 hw [] (FP.l2d c2) h0 n0 Z0 (Jvm.Free.Fl.l2d_fin _)) hZ (hw _ (List.mem_of_getElem? (i := 28) rfl)) (hw _ (List.mem_of_getElem? (i := 27) rfl)) (by decide) (by decide)) (g := (mkF m 20 #[.val (.ref a1), .val (.double (FP.l2d c1)), .second, .val (.double (FP.l2d r1)), .second, .val (.double (FP.l2d c2)), .second, .val (.double (FP.l2d r2)), .second] [(.double (FP.l2d c2))])) rfl (by rw [hml]; rfl) (argsL := [(.double (FP.l2d c2))]) (rest := []) (lenOf pd__40_D_41_Z rfl) rfl (by show 2 * 0 + _ ≤ _; exact Nat.le_of_eq rfl) (hb hby d4_20) (fun _ _ => ⟨rfl, e5, (by decide : (((0 + 0) + 0) + 0) + 0 ≤ _), (by decide : (((0 + 0) + 0) + 0) + 0 ≤ _)⟩)
  dsimp only [Pt.U, Pt.locs, Pt.cells, Pt.slots] at X7 l7 y7 z7 st7 hQ7
  rw [l7, y7, z7] at X7
  obtain ⟨rfl, Nq7, e7⟩ := hQ7
  have Np8 := Fr.app Np6 Nq7
  refine Go.on st7 ?_
  show Go p.tables e below s _ _ _ (T7.setTop (mkF m 23 #[.val (.ref a1), .val (.double (FP.l2d c1)), .second, .val (.double (FP.l2d r1)), .second, .val (.double (FP.l2d c2)), .second, .val (.double (FP.l2d r2)), .second] [(.int (1 : Int32))]))
  refine Go.on (fun t k => XS.ifNo X7.here hx rfl (hb hby d4_23) rfl ((if0 _ _).trans (feq (by decide : ¬ ((1 : Int32) = (0 : Int32)))).1) k) ?_
  show Go p.tables e below s _ _ _ (T7.setTop (mkF m 26 #[.val (.ref a1), .val (.double (FP.l2d c1)), .second, .val (.double (FP.l2d r1)), .second, .val (.double (FP.l2d c2)), .second, .val (.double (FP.l2d r2)), .second] []))
  refine Go.on (fun t k => XS.dload X7.here hx rfl (hb hby d4_26) rfl k) ?_
  show Go p.tables e below s _ _ _ (T7.setTop (mkF m 28 #[.val (.ref a1), .val (.double (FP.l2d c1)), .second, .val (.double (FP.l2d r1)), .second, .val (.double (FP.l2d c2)), .second, .val (.double (FP.l2d r2)), .second] [(.double (FP.l2d r2))]))
  obtain ⟨_, _, ⟨T9, L9, k9, n9⟩, -, X9, ⟨Lc9, hQ9, l9, y9, z9⟩, st9⟩ := Jvm.LawKit.callS X7 hx (y := (⟨"java/lang/Double", "isFinite", "(D)Z"⟩ : MethodName)) hown (mvT hZ (hw _ (List.mem_of_getElem? (i := 25) rfl))) (mvT hZ (hw _ (List.mem_of_getElem? (i := 26) rfl))) (mvT hZ (hw _ (List.mem_of_getElem? (i := 27) rfl))) (mvT hZ (hw _ (List.mem_of_getElem? (i := 28) rfl))) (by decide) (backOf (W := 0) (rm7 l Z a0 hw [] (FP.l2d r2) h0 n0 Z0 (Jvm.Free.Fl.l2d_fin _)) hZ (hw _ (List.mem_of_getElem? (i := 28) rfl)) (hw _ (List.mem_of_getElem? (i := 27) rfl)) (by decide) (by decide)) (g := (mkF m 28 #[.val (.ref a1), .val (.double (FP.l2d c1)), .second, .val (.double (FP.l2d r1)), .second, .val (.double (FP.l2d c2)), .second, .val (.double (FP.l2d r2)), .second] [(.double (FP.l2d r2))])) rfl (by rw [hml]; rfl) (argsL := [(.double (FP.l2d r2))]) (rest := []) (lenOf pd__40_D_41_Z rfl) rfl (by show 2 * 0 + _ ≤ _; exact Nat.le_of_eq rfl) (hb hby d4_28) (fun _ _ => ⟨rfl, e7, (by decide : ((((0 + 0) + 0) + 0) + 0) + 0 ≤ _), (by decide : ((((0 + 0) + 0) + 0) + 0) + 0 ≤ _)⟩)
  dsimp only [Pt.U, Pt.locs, Pt.cells, Pt.slots] at X9 l9 y9 z9 st9 hQ9
  rw [l9, y9, z9] at X9
  obtain ⟨rfl, Nq9, e9⟩ := hQ9
  have Np10 := Fr.app Np8 Nq9
  refine Go.on st9 ?_
  show Go p.tables e below s _ _ _ (T9.setTop (mkF m 31 #[.val (.ref a1), .val (.double (FP.l2d c1)), .second, .val (.double (FP.l2d r1)), .second, .val (.double (FP.l2d c2)), .second, .val (.double (FP.l2d r2)), .second] [(.int (1 : Int32))]))
  refine Go.on (fun t k => XS.ifYes X9.here hx rfl (pc0 := 31) (pc' := 44) rfl (hb hby d4_31) rfl ((if0 _ _).trans (feq (by decide : ¬ ((1 : Int32) = (0 : Int32)))).2) (by decide) (by decide) k) ?_
  show Go p.tables e below s _ _ _ (T9.setTop (mkF m 44 #[.val (.ref a1), .val (.double (FP.l2d c1)), .second, .val (.double (FP.l2d r1)), .second, .val (.double (FP.l2d c2)), .second, .val (.double (FP.l2d r2)), .second] []))
  refine Go.on (fun t k => XS.dloadN X9.here hx rfl (hb hby d4_44) rfl k) ?_
  show Go p.tables e below s _ _ _ (T9.setTop (mkF m 45 #[.val (.ref a1), .val (.double (FP.l2d c1)), .second, .val (.double (FP.l2d r1)), .second, .val (.double (FP.l2d c2)), .second, .val (.double (FP.l2d r2)), .second] [(.double (FP.l2d c1))]))
  refine Go.on (fun t k => XS.dload X9.here hx rfl (hb hby d4_45) rfl k) ?_
  show Go p.tables e below s _ _ _ (T9.setTop (mkF m 47 #[.val (.ref a1), .val (.double (FP.l2d c1)), .second, .val (.double (FP.l2d r1)), .second, .val (.double (FP.l2d c2)), .second, .val (.double (FP.l2d r2)), .second] [(.double (FP.l2d c2)), (.double (FP.l2d c1))]))
  refine Go.on (fun t k => XS.dcmpS X9.here hx rfl (hb hby d4_47) rfl (dcmpV_w zbc1 zbc2 _) k) ?_
  show Go p.tables e below s _ _ _ (T9.setTop (mkF m 48 #[.val (.ref a1), .val (.double (FP.l2d c1)), .second, .val (.double (FP.l2d r1)), .second, .val (.double (FP.l2d c2)), .second, .val (.double (FP.l2d r2)), .second] [(.int (lcmpW c1 c2))]))
  refine Go.on (fun t k => XS.ifYes X9.here hx rfl (pc0 := 48) (pc' := 67) rfl (hb hby d4_48) rfl ((if0 _ _).trans (tlt ((lw_lt _ _).mpr hc)).1) (by decide) (by decide) k) ?_
  show Go p.tables e below s _ _ _ (T9.setTop (mkF m 67 #[.val (.ref a1), .val (.double (FP.l2d c1)), .second, .val (.double (FP.l2d r1)), .second, .val (.double (FP.l2d c2)), .second, .val (.double (FP.l2d r2)), .second] []))
  refine Go.on (fun t k => XS.dloadN X9.here hx rfl (hb hby d4_67) rfl k) ?_
  show Go p.tables e below s _ _ _ (T9.setTop (mkF m 68 #[.val (.ref a1), .val (.double (FP.l2d c1)), .second, .val (.double (FP.l2d r1)), .second, .val (.double (FP.l2d c2)), .second, .val (.double (FP.l2d r2)), .second] [(.double (FP.l2d r1))]))
  refine Go.on (fun t k => XS.dload X9.here hx rfl (hb hby d4_68) rfl k) ?_
  show Go p.tables e below s _ _ _ (T9.setTop (mkF m 70 #[.val (.ref a1), .val (.double (FP.l2d c1)), .second, .val (.double (FP.l2d r1)), .second, .val (.double (FP.l2d c2)), .second, .val (.double (FP.l2d r2)), .second] [(.double (FP.l2d r2)), (.double (FP.l2d r1))]))
  refine Go.on (fun t k => XS.dcmpS X9.here hx rfl (hb hby d4_70) rfl (dcmpV_w zbr1 zbr2 _) k) ?_
  show Go p.tables e below s _ _ _ (T9.setTop (mkF m 71 #[.val (.ref a1), .val (.double (FP.l2d c1)), .second, .val (.double (FP.l2d r1)), .second, .val (.double (FP.l2d c2)), .second, .val (.double (FP.l2d r2)), .second] [(.int (lcmpW r1 r2))]))
  refine Go.on (fun t k => XS.ifYes X9.here hx rfl (pc0 := 71) (pc' := 90) rfl (hb hby d4_71) rfl ((if0 _ _).trans (tlt ((lw_lt _ _).mpr hr)).1) (by decide) (by decide) k) ?_
  show Go p.tables e below s _ _ _ (T9.setTop (mkF m 90 #[.val (.ref a1), .val (.double (FP.l2d c1)), .second, .val (.double (FP.l2d r1)), .second, .val (.double (FP.l2d c2)), .second, .val (.double (FP.l2d r2)), .second] []))
  refine Go.on (fun t k => XS.aloadN X9.here hx rfl (hb hby d4_90) rfl rfl k) ?_
  show Go p.tables e below s _ _ _ (T9.setTop (mkF m 91 #[.val (.ref a1), .val (.double (FP.l2d c1)), .second, .val (.double (FP.l2d r1)), .second, .val (.double (FP.l2d c2)), .second, .val (.double (FP.l2d r2)), .second] [(.ref a1)]))
  refine Go.on (fun t k => XS.dloadN X9.here hx rfl (hb hby d4_91) rfl k) ?_
  show Go p.tables e below s _ _ _ (T9.setTop (mkF m 92 #[.val (.ref a1), .val (.double (FP.l2d c1)), .second, .val (.double (FP.l2d r1)), .second, .val (.double (FP.l2d c2)), .second, .val (.double (FP.l2d r2)), .second] [(.double (FP.l2d c1)), (.ref a1)]))
  obtain ⟨T11, h11, X11, e11, W11, st11⟩ := putF X9 hx hZ hown (host := "") (Or.inl (hw _ (List.mem_of_getElem? (i := 33) rfl))) Via.refl e9 F_minLon_a1 E_a1 (Or.inr ⟨(hw _ (List.mem_of_getElem? (i := 34) rfl)), rfl, hnm⟩) (hw _ (List.mem_of_getElem? (i := 12) rfl)) (ty := .double) (by decide) rfl rfl (g := (mkF m 92 #[.val (.ref a1), .val (.double (FP.l2d c1)), .second, .val (.double (FP.l2d r1)), .second, .val (.double (FP.l2d c2)), .second, .val (.double (FP.l2d r2)), .second] [(.double (FP.l2d c1)), (.ref a1)])) rfl rfl (hb hby d4_92)
  have E_a1_12 := E_a1.wr W11
  have F_minLon_a1_13 := F_minLon_a1.same W11
  have F_minLat_a1_14 := F_minLat_a1.other W11 (Or.inr (slot_ne (Or.inr (hw _ (List.mem_of_getElem? (i := 36) rfl))) (Or.inr (hw _ (List.mem_of_getElem? (i := 34) rfl))) (by decide) (t := .double) (t' := .double) (by decide) (by decide)))
  have F_maxLon_a1_15 := F_maxLon_a1.other W11 (Or.inr (slot_ne (Or.inr (hw _ (List.mem_of_getElem? (i := 38) rfl))) (Or.inr (hw _ (List.mem_of_getElem? (i := 34) rfl))) (by decide) (t := .double) (t' := .double) (by decide) (by decide)))
  have F_maxLat_a1_16 := F_maxLat_a1.other W11 (Or.inr (slot_ne (Or.inr (hw _ (List.mem_of_getElem? (i := 40) rfl))) (Or.inr (hw _ (List.mem_of_getElem? (i := 34) rfl))) (by decide) (t := .double) (t' := .double) (by decide) (by decide)))
  have Zp17 := Nat.le_trans Z0 (Keep.of_wr W11).1
  have Kp18 := (Keep.refl h0 [a1]).wr W11 (Or.inl (List.mem_of_getElem? (i := 0) rfl))
  have Np19 := Fr.snoc X11 Np10 ge_a1
  refine Go.on st11 ?_
  show Go p.tables e below s _ _ _ (T11.setTop (mkF m 95 #[.val (.ref a1), .val (.double (FP.l2d c1)), .second, .val (.double (FP.l2d r1)), .second, .val (.double (FP.l2d c2)), .second, .val (.double (FP.l2d r2)), .second] []))
  refine Go.on (fun t k => XS.aloadN X11.here hx rfl (hb hby d4_95) rfl rfl k) ?_
  show Go p.tables e below s _ _ _ (T11.setTop (mkF m 96 #[.val (.ref a1), .val (.double (FP.l2d c1)), .second, .val (.double (FP.l2d r1)), .second, .val (.double (FP.l2d c2)), .second, .val (.double (FP.l2d r2)), .second] [(.ref a1)]))
  refine Go.on (fun t k => XS.dloadN X11.here hx rfl (hb hby d4_96) rfl k) ?_
  show Go p.tables e below s _ _ _ (T11.setTop (mkF m 97 #[.val (.ref a1), .val (.double (FP.l2d c1)), .second, .val (.double (FP.l2d r1)), .second, .val (.double (FP.l2d c2)), .second, .val (.double (FP.l2d r2)), .second] [(.double (FP.l2d r1)), (.ref a1)]))
  obtain ⟨T20, h20, X20, e20, W20, st20⟩ := putF X11 hx hZ hown (host := "") (Or.inl (hw _ (List.mem_of_getElem? (i := 35) rfl))) Via.refl e11 F_minLat_a1_14 E_a1_12 (Or.inr ⟨(hw _ (List.mem_of_getElem? (i := 36) rfl)), rfl, hnm⟩) (hw _ (List.mem_of_getElem? (i := 12) rfl)) (ty := .double) (by decide) rfl rfl (g := (mkF m 97 #[.val (.ref a1), .val (.double (FP.l2d c1)), .second, .val (.double (FP.l2d r1)), .second, .val (.double (FP.l2d c2)), .second, .val (.double (FP.l2d r2)), .second] [(.double (FP.l2d r1)), (.ref a1)])) rfl rfl (hb hby d4_97)
  have E_a1_21 := E_a1_12.wr W20
  have F_minLon_a1_22 := F_minLon_a1_13.other W20 (Or.inr (slot_ne (Or.inr (hw _ (List.mem_of_getElem? (i := 34) rfl))) (Or.inr (hw _ (List.mem_of_getElem? (i := 36) rfl))) (by decide) (t := .double) (t' := .double) (by decide) (by decide)))
  have F_minLat_a1_23 := F_minLat_a1_14.same W20
  have F_maxLon_a1_24 := F_maxLon_a1_15.other W20 (Or.inr (slot_ne (Or.inr (hw _ (List.mem_of_getElem? (i := 38) rfl))) (Or.inr (hw _ (List.mem_of_getElem? (i := 36) rfl))) (by decide) (t := .double) (t' := .double) (by decide) (by decide)))
  have F_maxLat_a1_25 := F_maxLat_a1_16.other W20 (Or.inr (slot_ne (Or.inr (hw _ (List.mem_of_getElem? (i := 40) rfl))) (Or.inr (hw _ (List.mem_of_getElem? (i := 36) rfl))) (by decide) (t := .double) (t' := .double) (by decide) (by decide)))
  have Zp26 := Nat.le_trans Zp17 (Keep.of_wr W20).1
  have Kp27 := Kp18.wr W20 (Or.inl (List.mem_of_getElem? (i := 0) rfl))
  have Np28 := Fr.snoc X20 Np19 ge_a1
  refine Go.on st20 ?_
  show Go p.tables e below s _ _ _ (T20.setTop (mkF m 100 #[.val (.ref a1), .val (.double (FP.l2d c1)), .second, .val (.double (FP.l2d r1)), .second, .val (.double (FP.l2d c2)), .second, .val (.double (FP.l2d r2)), .second] []))
  refine Go.on (fun t k => XS.aloadN X20.here hx rfl (hb hby d4_100) rfl rfl k) ?_
  show Go p.tables e below s _ _ _ (T20.setTop (mkF m 101 #[.val (.ref a1), .val (.double (FP.l2d c1)), .second, .val (.double (FP.l2d r1)), .second, .val (.double (FP.l2d c2)), .second, .val (.double (FP.l2d r2)), .second] [(.ref a1)]))
  refine Go.on (fun t k => XS.dload X20.here hx rfl (hb hby d4_101) rfl k) ?_
  show Go p.tables e below s _ _ _ (T20.setTop (mkF m 103 #[.val (.ref a1), .val (.double (FP.l2d c1)), .second, .val (.double (FP.l2d r1)), .second, .val (.double (FP.l2d c2)), .second, .val (.double (FP.l2d r2)), .second] [(.double (FP.l2d c2)), (.ref a1)]))
  obtain ⟨T29, h29, X29, e29, W29, st29⟩ := putF X20 hx hZ hown (host := "") (Or.inl (hw _ (List.mem_of_getElem? (i := 37) rfl))) Via.refl e20 F_maxLon_a1_24 E_a1_21 (Or.inr ⟨(hw _ (List.mem_of_getElem? (i := 38) rfl)), rfl, hnm⟩) (hw _ (List.mem_of_getElem? (i := 12) rfl)) (ty := .double) (by decide) rfl rfl (g := (mkF m 103 #[.val (.ref a1), .val (.double (FP.l2d c1)), .second, .val (.double (FP.l2d r1)), .second, .val (.double (FP.l2d c2)), .second, .val (.double (FP.l2d r2)), .second] [(.double (FP.l2d c2)), (.ref a1)])) rfl rfl (hb hby d4_103)
  have E_a1_30 := E_a1_21.wr W29
  have F_minLon_a1_31 := F_minLon_a1_22.other W29 (Or.inr (slot_ne (Or.inr (hw _ (List.mem_of_getElem? (i := 34) rfl))) (Or.inr (hw _ (List.mem_of_getElem? (i := 38) rfl))) (by decide) (t := .double) (t' := .double) (by decide) (by decide)))
  have F_minLat_a1_32 := F_minLat_a1_23.other W29 (Or.inr (slot_ne (Or.inr (hw _ (List.mem_of_getElem? (i := 36) rfl))) (Or.inr (hw _ (List.mem_of_getElem? (i := 38) rfl))) (by decide) (t := .double) (t' := .double) (by decide) (by decide)))
  have F_maxLon_a1_33 := F_maxLon_a1_24.same W29
  have F_maxLat_a1_34 := F_maxLat_a1_25.other W29 (Or.inr (slot_ne (Or.inr (hw _ (List.mem_of_getElem? (i := 40) rfl))) (Or.inr (hw _ (List.mem_of_getElem? (i := 38) rfl))) (by decide) (t := .double) (t' := .double) (by decide) (by decide)))
  have Zp35 := Nat.le_trans Zp26 (Keep.of_wr W29).1
  have Kp36 := Kp27.wr W29 (Or.inl (List.mem_of_getElem? (i := 0) rfl))
  have Np37 := Fr.snoc X29 Np28 ge_a1
  refine Go.on st29 ?_
  show Go p.tables e below s _ _ _ (T29.setTop (mkF m 106 #[.val (.ref a1), .val (.double (FP.l2d c1)), .second, .val (.double (FP.l2d r1)), .second, .val (.double (FP.l2d c2)), .second, .val (.double (FP.l2d r2)), .second] []))
  refine Go.on (fun t k => XS.aloadN X29.here hx rfl (hb hby d4_106) rfl rfl k) ?_
  show Go p.tables e below s _ _ _ (T29.setTop (mkF m 107 #[.val (.ref a1), .val (.double (FP.l2d c1)), .second, .val (.double (FP.l2d r1)), .second, .val (.double (FP.l2d c2)), .second, .val (.double (FP.l2d r2)), .second] [(.ref a1)]))
  refine Go.on (fun t k => XS.dload X29.here hx rfl (hb hby d4_107) rfl k) ?_
  show Go p.tables e below s _ _ _ (T29.setTop (mkF m 109 #[.val (.ref a1), .val (.double (FP.l2d c1)), .second, .val (.double (FP.l2d r1)), .second, .val (.double (FP.l2d c2)), .second, .val (.double (FP.l2d r2)), .second] [(.double (FP.l2d r2)), (.ref a1)]))
  obtain ⟨T38, h38, X38, e38, W38, st38⟩ := putF X29 hx hZ hown (host := "") (Or.inl (hw _ (List.mem_of_getElem? (i := 39) rfl))) Via.refl e29 F_maxLat_a1_34 E_a1_30 (Or.inr ⟨(hw _ (List.mem_of_getElem? (i := 40) rfl)), rfl, hnm⟩) (hw _ (List.mem_of_getElem? (i := 12) rfl)) (ty := .double) (by decide) rfl rfl (g := (mkF m 109 #[.val (.ref a1), .val (.double (FP.l2d c1)), .second, .val (.double (FP.l2d r1)), .second, .val (.double (FP.l2d c2)), .second, .val (.double (FP.l2d r2)), .second] [(.double (FP.l2d r2)), (.ref a1)])) rfl rfl (hb hby d4_109)
  have E_a1_39 := E_a1_30.wr W38
  have F_minLon_a1_40 := F_minLon_a1_31.other W38 (Or.inr (slot_ne (Or.inr (hw _ (List.mem_of_getElem? (i := 34) rfl))) (Or.inr (hw _ (List.mem_of_getElem? (i := 40) rfl))) (by decide) (t := .double) (t' := .double) (by decide) (by decide)))
  have F_minLat_a1_41 := F_minLat_a1_32.other W38 (Or.inr (slot_ne (Or.inr (hw _ (List.mem_of_getElem? (i := 36) rfl))) (Or.inr (hw _ (List.mem_of_getElem? (i := 40) rfl))) (by decide) (t := .double) (t' := .double) (by decide) (by decide)))
  have F_maxLon_a1_42 := F_maxLon_a1_33.other W38 (Or.inr (slot_ne (Or.inr (hw _ (List.mem_of_getElem? (i := 38) rfl))) (Or.inr (hw _ (List.mem_of_getElem? (i := 40) rfl))) (by decide) (t := .double) (t' := .double) (by decide) (by decide)))
  have F_maxLat_a1_43 := F_maxLat_a1_34.same W38
  have Zp44 := Nat.le_trans Zp35 (Keep.of_wr W38).1
  have Kp45 := Kp36.wr W38 (Or.inl (List.mem_of_getElem? (i := 0) rfl))
  have Np46 := Fr.snoc X38 Np37 ge_a1
  refine Go.on st38 ?_
  show Go p.tables e below s _ _ _ (T38.setTop (mkF m 112 #[.val (.ref a1), .val (.double (FP.l2d c1)), .second, .val (.double (FP.l2d r1)), .second, .val (.double (FP.l2d c2)), .second, .val (.double (FP.l2d r2)), .second] []))
  refine Go.retV X38 hx hlk Bd.returns (hb hby d4_112) (by decide) (by decide) e38 ?_
  exact ⟨rfl, Np46, Kp45, F_minLon_a1_40, F_minLat_a1_41, F_maxLon_a1_42, F_maxLat_a1_43⟩
theorem d9_0 : decode prog_73_method_3_code 0 = .ok (.aload_n 0, 1) := by decide +kernel
theorem d9_1 : decode prog_73_method_3_code 1 = .ok (.getfield 25, 3) := by decide +kernel
theorem d9_4 : decode prog_73_method_3_code 4 = .ok (.dload_n 1, 1) := by decide +kernel
theorem d9_5 : decode prog_73_method_3_code 5 = .ok (.dcmp .g, 1) := by decide +kernel
theorem d9_6 : decode prog_73_method_3_code 6 = .ok (.ifCond .gt 34, 3) := by decide +kernel
theorem d9_9 : decode prog_73_method_3_code 9 = .ok (.dload_n 1, 1) := by decide +kernel
theorem d9_10 : decode prog_73_method_3_code 10 = .ok (.aload_n 0, 1) := by decide +kernel
theorem d9_11 : decode prog_73_method_3_code 11 = .ok (.getfield 34, 3) := by decide +kernel
theorem d9_14 : decode prog_73_method_3_code 14 = .ok (.dcmp .g, 1) := by decide +kernel
theorem d9_15 : decode prog_73_method_3_code 15 = .ok (.ifCond .gt 25, 3) := by decide +kernel
theorem d9_18 : decode prog_73_method_3_code 18 = .ok (.aload_n 0, 1) := by decide +kernel
theorem d9_19 : decode prog_73_method_3_code 19 = .ok (.getfield 31, 3) := by decide +kernel
theorem d9_22 : decode prog_73_method_3_code 22 = .ok (.dload_n 3, 1) := by decide +kernel
theorem d9_23 : decode prog_73_method_3_code 23 = .ok (.dcmp .g, 1) := by decide +kernel
theorem d9_24 : decode prog_73_method_3_code 24 = .ok (.ifCond .gt 16, 3) := by decide +kernel
theorem d9_27 : decode prog_73_method_3_code 27 = .ok (.dload_n 3, 1) := by decide +kernel
theorem d9_28 : decode prog_73_method_3_code 28 = .ok (.aload_n 0, 1) := by decide +kernel
theorem d9_29 : decode prog_73_method_3_code 29 = .ok (.getfield 37, 3) := by decide +kernel
theorem d9_32 : decode prog_73_method_3_code 32 = .ok (.dcmp .g, 1) := by decide +kernel
theorem d9_33 : decode prog_73_method_3_code 33 = .ok (.ifCond .gt 7, 3) := by decide +kernel
theorem d9_36 : decode prog_73_method_3_code 36 = .ok (.iconst 1, 1) := by decide +kernel
theorem d9_37 : decode prog_73_method_3_code 37 = .ok (.goto 4, 3) := by decide +kernel
theorem d9_40 : decode prog_73_method_3_code 40 = .ok (.iconst 0, 1) := by decide +kernel
theorem d9_41 : decode prog_73_method_3_code 41 = .ok (.ireturn, 1) := by decide +kernel
theorem ef_9 (m : MethodId) (x0 : Addr) (x1 : UInt64) (x2 : UInt64) : entryFrame m #[(.ref x0), (.double x1), (.double x2)] 5 = mkF m 0 #[.val (.ref x0), .val (.double x1), .second, .val (.double x2), .second] [] := by first | (simp [entryFrame, mkF, argsToLocals, Value.category]; done) | rfl
def Q9 (Z : State) (a1 : Addr) (d2 : UInt64) (d3 : UInt64) (c1 : Int64) (r1 : Int64) (c2 : Int64) (r2 : Int64) (x : Int64) (y : Int64) (h0 : Heap) (n0 : Nat) (v : Option Value) (h : Heap) (L : List Loc) : Prop := v = some (.int (own_b (¬ (0 : Int32) < lcmpW c1 x ∧ ¬ (0 : Int32) < lcmpW x c2 ∧ ¬ (0 : Int32) < lcmpW r1 y ∧ ¬ (0 : Int32) < lcmpW y r2))) ∧ Fr n0 L ∧ h = h0
set_option maxRecDepth 65536 in
set_option maxHeartbeats 40000000 in
theorem rm9 (l : Launch) (Z : State) (a0 : Array Value) (hw : ∀ d ∈ tables_1, d.before a0 Z = true) (ws : List Jvm.Cond) (a1 : Addr) (d2 : UInt64) (d3 : UInt64) (c1 : Int64) (r1 : Int64) (c2 : Int64) (r2 : Int64) (x : Int64) (y : Int64) (h0 : Heap) (n0 : Nat) (Z0 : n0 ≤ h0.size) (F_minLon_a1 : Fld Z h0 a1 "com/example/gridshift/gridshift/Space" "minLon" "D" (.double (FP.l2d c1))) (F_minLat_a1 : Fld Z h0 a1 "com/example/gridshift/gridshift/Space" "minLat" "D" (.double (FP.l2d r1))) (F_maxLon_a1 : Fld Z h0 a1 "com/example/gridshift/gridshift/Space" "maxLon" "D" (.double (FP.l2d c2))) (F_maxLat_a1 : Fld Z h0 a1 "com/example/gridshift/gridshift/Space" "maxLat" "D" (.double (FP.l2d r2))) (zbc1 : B53 c1) (zbr1 : B53 r1) (zbc2 : B53 c2) (zbr2 : B53 r2) (zbx : B53 x) (zby : B53 y) (hx2 : d2 = FP.l2d x) (hy2 : d3 = FP.l2d y) :
    MetFree l (⟨"com/example/gridshift/gridshift/Space", "contains", "(DD)Z"⟩ : MethodName) (head1 (Jvm.Cond.code (⟨"com/example/gridshift/gridshift/Space", "contains", "(DD)Z"⟩ : MethodName) prog_73_method_3_code 5 (some .boolean) :: ws) ({ frames := 0, cells := 0, slots := 0, locals := 0 } : Room)) (fun a U => a = #[(.ref a1), (.double d2), (.double d3)] ∧ Z.Warmed39 U.vm ∧ U.heap = h0) (fun _ _ _ _ _ => True) (fun _ U o U' => ∃ v L, o = .returned v ∧ Q9 Z a1 d2 d3 c1 r1 c2 r2 x y h0 n0 v U'.heap L ∧ FrameEnd U o U' L ({ frames := 0, cells := 0, slots := 0, locals := 0 } : Room).cells ({ frames := 0, cells := 0, slots := 0, locals := 0 } : Room).slots) := by
  refine MetFree.of_bodySF (plainFor_of_name pn_com_example_gridshift_gridshift_Space) hisR ?_
  intro p e s m args below meth c s₁ Bd hml0 hP hK
  obtain ⟨rfl, hZ, hh⟩ := hP
  have hx := Bd.exec
  have hby := Bd.bytes
  have hlk : meth.locks = false := BodyLoose.notSynchronized Bd
  have hml : c.maxLocals = 5 := hml0
  have hown : s.vm.findClass "com/example/gridshift/gridshift/Space" = some m.cls := findClass_of_methodNamed Bd.named
  have hnm := (name_of_methodNamed Bd.named Bd.method).1
  have X0 : Stand p l e ({ frames := 0, cells := 0, slots := 0, locals := 0 } : Room) s m #[(.ref a1), (.double d2), (.double d3)] below meth c s₁ [] 0 0 := Stand.of_body Bd
  have e0 : s₁.heap = h0 := by rw [← hh, Bd.state]; rfl
  have N0 := Fr.nil n0
  show Go p.tables e below s (Q9 Z a1 d2 d3 c1 r1 c2 r2 x y h0 n0) ({ frames := 0, cells := 0, slots := 0, locals := 0 } : Room).cells ({ frames := 0, cells := 0, slots := 0, locals := 0 } : Room).slots (s₁.setTop (entryFrame m #[(.ref a1), (.double d2), (.double d3)] 5))
  refine Go.on (fun t k => castTop (ef_9 m a1 d2 d3) k) ?_
  show Go p.tables e below s _ _ _ (s₁.setTop (mkF m 0 #[.val (.ref a1), .val (.double d2), .second, .val (.double d3), .second] []))
  subst hx2 hy2
  show Go p.tables e below s _ _ _ (s₁.setTop (mkF m 0 #[.val (.ref a1), .val (.double (FP.l2d x)), .second, .val (.double (FP.l2d y)), .second] []))
  refine Go.on (fun t k => XS.aloadN X0.here hx rfl (hb hby d9_0) rfl rfl k) ?_
  show Go p.tables e below s _ _ _ (s₁.setTop (mkF m 1 #[.val (.ref a1), .val (.double (FP.l2d x)), .second, .val (.double (FP.l2d y)), .second] [(.ref a1)]))
  obtain ⟨T1, X1, e1, st1⟩ := getF X0 hx hZ hown (host := "") (Or.inl (hw _ (List.mem_of_getElem? (i := 33) rfl))) Via.refl e0 F_minLon_a1 (g := (mkF m 1 #[.val (.ref a1), .val (.double (FP.l2d x)), .second, .val (.double (FP.l2d y)), .second] [(.ref a1)])) rfl rfl (hb hby d9_1)
  refine Go.on st1 ?_
  show Go p.tables e below s _ _ _ (T1.setTop (mkF m 4 #[.val (.ref a1), .val (.double (FP.l2d x)), .second, .val (.double (FP.l2d y)), .second] [(.double (FP.l2d c1))]))
  refine Go.on (fun t k => XS.dloadN X1.here hx rfl (hb hby d9_4) rfl k) ?_
  show Go p.tables e below s _ _ _ (T1.setTop (mkF m 5 #[.val (.ref a1), .val (.double (FP.l2d x)), .second, .val (.double (FP.l2d y)), .second] [(.double (FP.l2d x)), (.double (FP.l2d c1))]))
  refine Go.on (fun t k => XS.dcmpS X1.here hx rfl (hb hby d9_5) rfl (dcmpV_w zbc1 zbx _) k) ?_
  show Go p.tables e below s _ _ _ (T1.setTop (mkF m 6 #[.val (.ref a1), .val (.double (FP.l2d x)), .second, .val (.double (FP.l2d y)), .second] [(.int (lcmpW c1 x))]))
  by_cases hc6_2 : (0 : Int32) < (lcmpW c1 x)
  · refine Go.on (fun t k => XS.ifYes X1.here hx rfl (pc0 := 6) (pc' := 40) rfl (hb hby d9_6) rfl ((if0 _ _).trans (tlt hc6_2).2.2.1) (by decide) (by decide) k) ?_
    show Go p.tables e below s _ _ _ (T1.setTop (mkF m 40 #[.val (.ref a1), .val (.double (FP.l2d x)), .second, .val (.double (FP.l2d y)), .second] []))
    refine Go.on (fun t k => XS.iconst X1.here hx rfl (hb hby d9_40) k) ?_
    show Go p.tables e below s _ _ _ (T1.setTop (mkF m 41 #[.val (.ref a1), .val (.double (FP.l2d x)), .second, .val (.double (FP.l2d y)), .second] [(.int (0 : Int32))]))
    refine Go.retN X1 hx hlk (t := .boolean) Bd.returns (by simp) (hb hby d9_41) (by decide) (by decide) e1 ?_
    exact ⟨(by rw [own_bf (fun q => q.1 hc6_2)]; rfl), N0, rfl⟩
  · refine Go.on (fun t k => XS.ifNo X1.here hx rfl (hb hby d9_6) rfl ((if0 _ _).trans (flt hc6_2).2.2.1) k) ?_
    show Go p.tables e below s _ _ _ (T1.setTop (mkF m 9 #[.val (.ref a1), .val (.double (FP.l2d x)), .second, .val (.double (FP.l2d y)), .second] []))
    refine Go.on (fun t k => XS.dloadN X1.here hx rfl (hb hby d9_9) rfl k) ?_
    show Go p.tables e below s _ _ _ (T1.setTop (mkF m 10 #[.val (.ref a1), .val (.double (FP.l2d x)), .second, .val (.double (FP.l2d y)), .second] [(.double (FP.l2d x))]))
    refine Go.on (fun t k => XS.aloadN X1.here hx rfl (hb hby d9_10) rfl rfl k) ?_
    show Go p.tables e below s _ _ _ (T1.setTop (mkF m 11 #[.val (.ref a1), .val (.double (FP.l2d x)), .second, .val (.double (FP.l2d y)), .second] [(.ref a1), (.double (FP.l2d x))]))
    obtain ⟨T3, X3, e3, st3⟩ := getF X1 hx hZ hown (host := "") (Or.inl (hw _ (List.mem_of_getElem? (i := 37) rfl))) Via.refl e1 F_maxLon_a1 (g := (mkF m 11 #[.val (.ref a1), .val (.double (FP.l2d x)), .second, .val (.double (FP.l2d y)), .second] [(.ref a1), (.double (FP.l2d x))])) rfl rfl (hb hby d9_11)
    refine Go.on st3 ?_
    show Go p.tables e below s _ _ _ (T3.setTop (mkF m 14 #[.val (.ref a1), .val (.double (FP.l2d x)), .second, .val (.double (FP.l2d y)), .second] [(.double (FP.l2d c2)), (.double (FP.l2d x))]))
    refine Go.on (fun t k => XS.dcmpS X3.here hx rfl (hb hby d9_14) rfl (dcmpV_w zbx zbc2 _) k) ?_
    show Go p.tables e below s _ _ _ (T3.setTop (mkF m 15 #[.val (.ref a1), .val (.double (FP.l2d x)), .second, .val (.double (FP.l2d y)), .second] [(.int (lcmpW x c2))]))
    by_cases hc15_4 : (0 : Int32) < (lcmpW x c2)
    · refine Go.on (fun t k => XS.ifYes X3.here hx rfl (pc0 := 15) (pc' := 40) rfl (hb hby d9_15) rfl ((if0 _ _).trans (tlt hc15_4).2.2.1) (by decide) (by decide) k) ?_
      show Go p.tables e below s _ _ _ (T3.setTop (mkF m 40 #[.val (.ref a1), .val (.double (FP.l2d x)), .second, .val (.double (FP.l2d y)), .second] []))
      refine Go.on (fun t k => XS.iconst X3.here hx rfl (hb hby d9_40) k) ?_
      show Go p.tables e below s _ _ _ (T3.setTop (mkF m 41 #[.val (.ref a1), .val (.double (FP.l2d x)), .second, .val (.double (FP.l2d y)), .second] [(.int (0 : Int32))]))
      refine Go.retN X3 hx hlk (t := .boolean) Bd.returns (by simp) (hb hby d9_41) (by decide) (by decide) e3 ?_
      exact ⟨(by rw [own_bf (fun q => q.2.1 hc15_4)]; rfl), N0, rfl⟩
    · refine Go.on (fun t k => XS.ifNo X3.here hx rfl (hb hby d9_15) rfl ((if0 _ _).trans (flt hc15_4).2.2.1) k) ?_
      show Go p.tables e below s _ _ _ (T3.setTop (mkF m 18 #[.val (.ref a1), .val (.double (FP.l2d x)), .second, .val (.double (FP.l2d y)), .second] []))
      refine Go.on (fun t k => XS.aloadN X3.here hx rfl (hb hby d9_18) rfl rfl k) ?_
      show Go p.tables e below s _ _ _ (T3.setTop (mkF m 19 #[.val (.ref a1), .val (.double (FP.l2d x)), .second, .val (.double (FP.l2d y)), .second] [(.ref a1)]))
      obtain ⟨T5, X5, e5, st5⟩ := getF X3 hx hZ hown (host := "") (Or.inl (hw _ (List.mem_of_getElem? (i := 35) rfl))) Via.refl e3 F_minLat_a1 (g := (mkF m 19 #[.val (.ref a1), .val (.double (FP.l2d x)), .second, .val (.double (FP.l2d y)), .second] [(.ref a1)])) rfl rfl (hb hby d9_19)
      refine Go.on st5 ?_
      show Go p.tables e below s _ _ _ (T5.setTop (mkF m 22 #[.val (.ref a1), .val (.double (FP.l2d x)), .second, .val (.double (FP.l2d y)), .second] [(.double (FP.l2d r1))]))
      refine Go.on (fun t k => XS.dloadN X5.here hx rfl (hb hby d9_22) rfl k) ?_
      show Go p.tables e below s _ _ _ (T5.setTop (mkF m 23 #[.val (.ref a1), .val (.double (FP.l2d x)), .second, .val (.double (FP.l2d y)), .second] [(.double (FP.l2d y)), (.double (FP.l2d r1))]))
      refine Go.on (fun t k => XS.dcmpS X5.here hx rfl (hb hby d9_23) rfl (dcmpV_w zbr1 zby _) k) ?_
      show Go p.tables e below s _ _ _ (T5.setTop (mkF m 24 #[.val (.ref a1), .val (.double (FP.l2d x)), .second, .val (.double (FP.l2d y)), .second] [(.int (lcmpW r1 y))]))
      by_cases hc24_6 : (0 : Int32) < (lcmpW r1 y)
      · refine Go.on (fun t k => XS.ifYes X5.here hx rfl (pc0 := 24) (pc' := 40) rfl (hb hby d9_24) rfl ((if0 _ _).trans (tlt hc24_6).2.2.1) (by decide) (by decide) k) ?_
        show Go p.tables e below s _ _ _ (T5.setTop (mkF m 40 #[.val (.ref a1), .val (.double (FP.l2d x)), .second, .val (.double (FP.l2d y)), .second] []))
        refine Go.on (fun t k => XS.iconst X5.here hx rfl (hb hby d9_40) k) ?_
        show Go p.tables e below s _ _ _ (T5.setTop (mkF m 41 #[.val (.ref a1), .val (.double (FP.l2d x)), .second, .val (.double (FP.l2d y)), .second] [(.int (0 : Int32))]))
        refine Go.retN X5 hx hlk (t := .boolean) Bd.returns (by simp) (hb hby d9_41) (by decide) (by decide) e5 ?_
        exact ⟨(by rw [own_bf (fun q => q.2.2.1 hc24_6)]; rfl), N0, rfl⟩
      · refine Go.on (fun t k => XS.ifNo X5.here hx rfl (hb hby d9_24) rfl ((if0 _ _).trans (flt hc24_6).2.2.1) k) ?_
        show Go p.tables e below s _ _ _ (T5.setTop (mkF m 27 #[.val (.ref a1), .val (.double (FP.l2d x)), .second, .val (.double (FP.l2d y)), .second] []))
        refine Go.on (fun t k => XS.dloadN X5.here hx rfl (hb hby d9_27) rfl k) ?_
        show Go p.tables e below s _ _ _ (T5.setTop (mkF m 28 #[.val (.ref a1), .val (.double (FP.l2d x)), .second, .val (.double (FP.l2d y)), .second] [(.double (FP.l2d y))]))
        refine Go.on (fun t k => XS.aloadN X5.here hx rfl (hb hby d9_28) rfl rfl k) ?_
        show Go p.tables e below s _ _ _ (T5.setTop (mkF m 29 #[.val (.ref a1), .val (.double (FP.l2d x)), .second, .val (.double (FP.l2d y)), .second] [(.ref a1), (.double (FP.l2d y))]))
        obtain ⟨T7, X7, e7, st7⟩ := getF X5 hx hZ hown (host := "") (Or.inl (hw _ (List.mem_of_getElem? (i := 39) rfl))) Via.refl e5 F_maxLat_a1 (g := (mkF m 29 #[.val (.ref a1), .val (.double (FP.l2d x)), .second, .val (.double (FP.l2d y)), .second] [(.ref a1), (.double (FP.l2d y))])) rfl rfl (hb hby d9_29)
        refine Go.on st7 ?_
        show Go p.tables e below s _ _ _ (T7.setTop (mkF m 32 #[.val (.ref a1), .val (.double (FP.l2d x)), .second, .val (.double (FP.l2d y)), .second] [(.double (FP.l2d r2)), (.double (FP.l2d y))]))
        refine Go.on (fun t k => XS.dcmpS X7.here hx rfl (hb hby d9_32) rfl (dcmpV_w zby zbr2 _) k) ?_
        show Go p.tables e below s _ _ _ (T7.setTop (mkF m 33 #[.val (.ref a1), .val (.double (FP.l2d x)), .second, .val (.double (FP.l2d y)), .second] [(.int (lcmpW y r2))]))
        by_cases hc33_8 : (0 : Int32) < (lcmpW y r2)
        · refine Go.on (fun t k => XS.ifYes X7.here hx rfl (pc0 := 33) (pc' := 40) rfl (hb hby d9_33) rfl ((if0 _ _).trans (tlt hc33_8).2.2.1) (by decide) (by decide) k) ?_
          show Go p.tables e below s _ _ _ (T7.setTop (mkF m 40 #[.val (.ref a1), .val (.double (FP.l2d x)), .second, .val (.double (FP.l2d y)), .second] []))
          refine Go.on (fun t k => XS.iconst X7.here hx rfl (hb hby d9_40) k) ?_
          show Go p.tables e below s _ _ _ (T7.setTop (mkF m 41 #[.val (.ref a1), .val (.double (FP.l2d x)), .second, .val (.double (FP.l2d y)), .second] [(.int (0 : Int32))]))
          refine Go.retN X7 hx hlk (t := .boolean) Bd.returns (by simp) (hb hby d9_41) (by decide) (by decide) e7 ?_
          exact ⟨(by rw [own_bf (fun q => q.2.2.2 hc33_8)]; rfl), N0, rfl⟩
        · refine Go.on (fun t k => XS.ifNo X7.here hx rfl (hb hby d9_33) rfl ((if0 _ _).trans (flt hc33_8).2.2.1) k) ?_
          show Go p.tables e below s _ _ _ (T7.setTop (mkF m 36 #[.val (.ref a1), .val (.double (FP.l2d x)), .second, .val (.double (FP.l2d y)), .second] []))
          refine Go.on (fun t k => XS.iconst X7.here hx rfl (hb hby d9_36) k) ?_
          show Go p.tables e below s _ _ _ (T7.setTop (mkF m 37 #[.val (.ref a1), .val (.double (FP.l2d x)), .second, .val (.double (FP.l2d y)), .second] [(.int (1 : Int32))]))
          refine Go.on (fun t k => XS.goto X7.here hx rfl (pc0 := 37) (pc' := 41) rfl (hb hby d9_37) (by decide) (by decide) k) ?_
          show Go p.tables e below s _ _ _ (T7.setTop (mkF m 41 #[.val (.ref a1), .val (.double (FP.l2d x)), .second, .val (.double (FP.l2d y)), .second] [(.int (1 : Int32))]))
          refine Go.retN X7 hx hlk (t := .boolean) Bd.returns (by simp) (hb hby d9_41) (by decide) (by decide) e7 ?_
          exact ⟨(by rw [own_bt ⟨hc6_2, hc15_4, hc24_6, hc33_8⟩]; rfl), N0, rfl⟩
theorem own_eq {c1 c2 r1 r2 x y : Int64} (h : ¬ own_b (¬ lcmpW x c1 < (0 : Int32) ∧ ¬ (0 : Int32) < lcmpW x c2) = 0) : own_b (¬ (0 : Int32) < lcmpW c1 x ∧ ¬ (0 : Int32) < lcmpW x c2 ∧ ¬ (0 : Int32) < lcmpW r1 y ∧ ¬ (0 : Int32) < lcmpW y r2) = own_b (¬ lcmpW y r1 < (0 : Int32) ∧ ¬ (0 : Int32) < lcmpW y r2) := by
  have q := own_b1 h
  by_cases z : ¬ lcmpW y r1 < (0 : Int32) ∧ ¬ (0 : Int32) < lcmpW y r2
  · rw [own_bt z, own_bt ⟨(own_vv _ _).mp q.1, q.2, (own_vv _ _).mp z.1, z.2⟩]
  · rw [own_bf z, own_bf fun w => z ⟨(own_vv _ _).mpr w.2.2.1, w.2.2.2⟩]

theorem ef_0 (m : MethodId) (x0 : Int32) (x1 : Int32) (x2 : Int32) (x3 : Int32) (x4 : Int32) (x5 : Int32) : entryFrame m #[(.int x0), (.int x1), (.int x2), (.int x3), (.int x4), (.int x5)] maxLocals = mkF m 0 #[.val (.int x0), .val (.int x1), .val (.int x2), .val (.int x3), .val (.int x4), .val (.int x5), .unset, .unset, .unset, .unset, .unset, .unset, .unset, .unset, .unset, .unset, .unset, .unset, .unset, .unset, .unset] [] := by first | (simp [entryFrame, mkF, argsToLocals, Value.category, maxLocals]; done) | rfl
def Q0 (Z : State) (p1 : Int32) (p2 : Int32) (p3 : Int32) (p4 : Int32) (p5 : Int32) (p6 : Int32) (h0 : Heap) (n0 : Nat) (v : Option Value) (h : Heap) (L : List Loc) : Prop := v = some (.int (1 : Int32)) ∧ Fr n0 L
set_option maxRecDepth 65536 in
set_option maxHeartbeats 40000000 in
theorem rm0 (l : Launch) (Z : State) (a0 : Array Value) (hw : ∀ d ∈ tables_1, d.before a0 Z = true) (ws : List Jvm.Cond) (p1 : Int32) (p2 : Int32) (p3 : Int32) (p4 : Int32) (p5 : Int32) (p6 : Int32) (h0 : Heap) (n0 : Nat) (Z0 : n0 ≤ h0.size)  :
    MetFree l x (head1 (Jvm.Cond.code x code maxLocals ret :: ws) room_1) (fun a U => a = #[(.int p1), (.int p2), (.int p3), (.int p4), (.int p5), (.int p6)] ∧ Z.Warmed39 U.vm ∧ U.heap = h0) (fun _ _ _ _ _ => True) (fun _ U o U' => ∃ v L, o = .returned v ∧ Q0 Z p1 p2 p3 p4 p5 p6 h0 n0 v U'.heap L ∧ FrameEnd U o U' L room_1.cells room_1.slots) := by
  refine MetFree.of_bodySF (plainFor_of_name pn_com_example_gridshift_gridshift_SpaceContainsPinLaw) hisR ?_
  intro p e s m args below meth c s₁ Bd hml0 hP hK
  obtain ⟨rfl, hZ, hh⟩ := hP
  have hx := Bd.exec
  have hby := Bd.bytes
  have hlk : meth.locks = false := BodyLoose.notSynchronized Bd
  have hml : c.maxLocals = 21 := hml0
  have hown : s.vm.findClass "com/example/gridshift/gridshift/SpaceContainsPinLaw" = some m.cls := findClass_of_methodNamed Bd.named
  have hnm := (name_of_methodNamed Bd.named Bd.method).1
  have X0 : Stand p l e room_1 s m #[(.int p1), (.int p2), (.int p3), (.int p4), (.int p5), (.int p6)] below meth c s₁ [] 0 0 := Stand.of_body Bd
  have e0 : s₁.heap = h0 := by rw [← hh, Bd.state]; rfl
  have N0 := Fr.nil n0
  show Go p.tables e below s (Q0 Z p1 p2 p3 p4 p5 p6 h0 n0) room_1.cells room_1.slots (s₁.setTop (entryFrame m #[(.int p1), (.int p2), (.int p3), (.int p4), (.int p5), (.int p6)] maxLocals))
  refine Go.on (fun t k => castTop (ef_0 m p1 p2 p3 p4 p5 p6) k) ?_
  show Go p.tables e below s _ _ _ (s₁.setTop (mkF m 0 #[.val (.int p1), .val (.int p2), .val (.int p3), .val (.int p4), .val (.int p5), .val (.int p6), .unset, .unset, .unset, .unset, .unset, .unset, .unset, .unset, .unset, .unset, .unset, .unset, .unset, .unset, .unset] []))
  refine Go.on (fun t k => XS.iloadN X0.here hx rfl (hb hby at_0) rfl k) ?_
  show Go p.tables e below s _ _ _ (s₁.setTop (mkF m 1 #[.val (.int p1), .val (.int p2), .val (.int p3), .val (.int p4), .val (.int p5), .val (.int p6), .unset, .unset, .unset, .unset, .unset, .unset, .unset, .unset, .unset, .unset, .unset, .unset, .unset, .unset, .unset] [(.int p1)]))
  refine Go.on (fun t k => XS.i2l X0.here hx rfl (hb hby at_1) rfl k) ?_
  show Go p.tables e below s _ _ _ (s₁.setTop (mkF m 2 #[.val (.int p1), .val (.int p2), .val (.int p3), .val (.int p4), .val (.int p5), .val (.int p6), .unset, .unset, .unset, .unset, .unset, .unset, .unset, .unset, .unset, .unset, .unset, .unset, .unset, .unset, .unset] [(.long (p1.toInt64))]))
  refine Go.on (fun t k => XS.iloadN X0.here hx rfl (hb hby at_2) rfl k) ?_
  show Go p.tables e below s _ _ _ (s₁.setTop (mkF m 3 #[.val (.int p1), .val (.int p2), .val (.int p3), .val (.int p4), .val (.int p5), .val (.int p6), .unset, .unset, .unset, .unset, .unset, .unset, .unset, .unset, .unset, .unset, .unset, .unset, .unset, .unset, .unset] [(.int p2), (.long (p1.toInt64))]))
  refine Go.on (fun t k => XS.i2l X0.here hx rfl (hb hby at_3) rfl k) ?_
  show Go p.tables e below s _ _ _ (s₁.setTop (mkF m 4 #[.val (.int p1), .val (.int p2), .val (.int p3), .val (.int p4), .val (.int p5), .val (.int p6), .unset, .unset, .unset, .unset, .unset, .unset, .unset, .unset, .unset, .unset, .unset, .unset, .unset, .unset, .unset] [(.long (p2.toInt64)), (.long (p1.toInt64))]))
  obtain ⟨_, _, ⟨T1, L1, k1, n1⟩, -, X1, ⟨Lc1, hQ1, l1, y1, z1⟩, st1⟩ := Jvm.LawKit.callS X0 hx (y := (⟨"java/lang/Math", "min", "(JJ)J"⟩ : MethodName)) hown (mvT hZ (hw _ (List.mem_of_getElem? (i := 0) rfl))) (mvT hZ (hw _ (List.mem_of_getElem? (i := 1) rfl))) (mvT hZ (hw _ (List.mem_of_getElem? (i := 2) rfl))) (mvT hZ (hw _ (List.mem_of_getElem? (i := 3) rfl))) (by decide) (backOf (W := 0) (rm1 l Z a0 hw [] (p1.toInt64) (p2.toInt64) h0 n0 Z0 ) hZ (hw _ (List.mem_of_getElem? (i := 3) rfl)) (hw _ (List.mem_of_getElem? (i := 2) rfl)) (by decide) (by decide)) (g := (mkF m 4 #[.val (.int p1), .val (.int p2), .val (.int p3), .val (.int p4), .val (.int p5), .val (.int p6), .unset, .unset, .unset, .unset, .unset, .unset, .unset, .unset, .unset, .unset, .unset, .unset, .unset, .unset, .unset] [(.long (p2.toInt64)), (.long (p1.toInt64))])) rfl (by rw [hml]; rfl) (argsL := [(.long (p1.toInt64)), (.long (p2.toInt64))]) (rest := []) (lenOf pd__40_JJ_41_J rfl) rfl (by show 2 * 0 + _ ≤ _; exact Nat.le_of_eq rfl) (hb hby at_4) (fun _ _ => ⟨rfl, e0, (by decide : 0 + 0 ≤ _), (by decide : 0 + 0 ≤ _)⟩)
  dsimp only [Pt.U, Pt.locs, Pt.cells, Pt.slots] at X1 l1 y1 z1 st1 hQ1
  rw [l1, y1, z1] at X1
  obtain ⟨rfl, Nq1, e1⟩ := hQ1
  have Np2 := Fr.app N0 Nq1
  refine Go.on st1 ?_
  show Go p.tables e below s _ _ _ (T1.setTop (mkF m 7 #[.val (.int p1), .val (.int p2), .val (.int p3), .val (.int p4), .val (.int p5), .val (.int p6), .unset, .unset, .unset, .unset, .unset, .unset, .unset, .unset, .unset, .unset, .unset, .unset, .unset, .unset, .unset] [(.long (own_minL (p1.toInt64) (p2.toInt64)))]))
  refine Go.on (fun t k => XS.lstore X1.here hx rfl (hb hby at_7) rfl (l' := #[.val (.int p1), .val (.int p2), .val (.int p3), .val (.int p4), .val (.int p5), .val (.int p6), .val (.long (own_minL (p1.toInt64) (p2.toInt64))), .second, .unset, .unset, .unset, .unset, .unset, .unset, .unset, .unset, .unset, .unset, .unset, .unset, .unset]) rfl k) ?_
  show Go p.tables e below s _ _ _ (T1.setTop (mkF m 9 #[.val (.int p1), .val (.int p2), .val (.int p3), .val (.int p4), .val (.int p5), .val (.int p6), .val (.long (own_minL (p1.toInt64) (p2.toInt64))), .second, .unset, .unset, .unset, .unset, .unset, .unset, .unset, .unset, .unset, .unset, .unset, .unset, .unset] []))
  refine Go.on (fun t k => XS.iloadN X1.here hx rfl (hb hby at_9) rfl k) ?_
  show Go p.tables e below s _ _ _ (T1.setTop (mkF m 10 #[.val (.int p1), .val (.int p2), .val (.int p3), .val (.int p4), .val (.int p5), .val (.int p6), .val (.long (own_minL (p1.toInt64) (p2.toInt64))), .second, .unset, .unset, .unset, .unset, .unset, .unset, .unset, .unset, .unset, .unset, .unset, .unset, .unset] [(.int p1)]))
  refine Go.on (fun t k => XS.i2l X1.here hx rfl (hb hby at_10) rfl k) ?_
  show Go p.tables e below s _ _ _ (T1.setTop (mkF m 11 #[.val (.int p1), .val (.int p2), .val (.int p3), .val (.int p4), .val (.int p5), .val (.int p6), .val (.long (own_minL (p1.toInt64) (p2.toInt64))), .second, .unset, .unset, .unset, .unset, .unset, .unset, .unset, .unset, .unset, .unset, .unset, .unset, .unset] [(.long (p1.toInt64))]))
  refine Go.on (fun t k => XS.iloadN X1.here hx rfl (hb hby at_11) rfl k) ?_
  show Go p.tables e below s _ _ _ (T1.setTop (mkF m 12 #[.val (.int p1), .val (.int p2), .val (.int p3), .val (.int p4), .val (.int p5), .val (.int p6), .val (.long (own_minL (p1.toInt64) (p2.toInt64))), .second, .unset, .unset, .unset, .unset, .unset, .unset, .unset, .unset, .unset, .unset, .unset, .unset, .unset] [(.int p2), (.long (p1.toInt64))]))
  refine Go.on (fun t k => XS.i2l X1.here hx rfl (hb hby at_12) rfl k) ?_
  show Go p.tables e below s _ _ _ (T1.setTop (mkF m 13 #[.val (.int p1), .val (.int p2), .val (.int p3), .val (.int p4), .val (.int p5), .val (.int p6), .val (.long (own_minL (p1.toInt64) (p2.toInt64))), .second, .unset, .unset, .unset, .unset, .unset, .unset, .unset, .unset, .unset, .unset, .unset, .unset, .unset] [(.long (p2.toInt64)), (.long (p1.toInt64))]))
  obtain ⟨_, _, ⟨T3, L3, k3, n3⟩, -, X3, ⟨Lc3, hQ3, l3, y3, z3⟩, st3⟩ := Jvm.LawKit.callS X1 hx (y := (⟨"java/lang/Math", "max", "(JJ)J"⟩ : MethodName)) hown (mvT hZ (hw _ (List.mem_of_getElem? (i := 4) rfl))) (mvT hZ (hw _ (List.mem_of_getElem? (i := 5) rfl))) (mvT hZ (hw _ (List.mem_of_getElem? (i := 2) rfl))) (mvT hZ (hw _ (List.mem_of_getElem? (i := 6) rfl))) (by decide) (backOf (W := 0) (rm2 l Z a0 hw [] (p1.toInt64) (p2.toInt64) h0 n0 Z0 ) hZ (hw _ (List.mem_of_getElem? (i := 6) rfl)) (hw _ (List.mem_of_getElem? (i := 2) rfl)) (by decide) (by decide)) (g := (mkF m 13 #[.val (.int p1), .val (.int p2), .val (.int p3), .val (.int p4), .val (.int p5), .val (.int p6), .val (.long (own_minL (p1.toInt64) (p2.toInt64))), .second, .unset, .unset, .unset, .unset, .unset, .unset, .unset, .unset, .unset, .unset, .unset, .unset, .unset] [(.long (p2.toInt64)), (.long (p1.toInt64))])) rfl (by rw [hml]; rfl) (argsL := [(.long (p1.toInt64)), (.long (p2.toInt64))]) (rest := []) (lenOf pd__40_JJ_41_J rfl) rfl (by show 2 * 0 + _ ≤ _; exact Nat.le_of_eq rfl) (hb hby at_13) (fun _ _ => ⟨rfl, e1, (by decide : (0 + 0) + 0 ≤ _), (by decide : (0 + 0) + 0 ≤ _)⟩)
  dsimp only [Pt.U, Pt.locs, Pt.cells, Pt.slots] at X3 l3 y3 z3 st3 hQ3
  rw [l3, y3, z3] at X3
  obtain ⟨rfl, Nq3, e3⟩ := hQ3
  have Np4 := Fr.app Np2 Nq3
  refine Go.on st3 ?_
  show Go p.tables e below s _ _ _ (T3.setTop (mkF m 16 #[.val (.int p1), .val (.int p2), .val (.int p3), .val (.int p4), .val (.int p5), .val (.int p6), .val (.long (own_minL (p1.toInt64) (p2.toInt64))), .second, .unset, .unset, .unset, .unset, .unset, .unset, .unset, .unset, .unset, .unset, .unset, .unset, .unset] [(.long (own_maxL (p1.toInt64) (p2.toInt64)))]))
  refine Go.on (fun t k => XS.lstore X3.here hx rfl (hb hby at_16) rfl (l' := #[.val (.int p1), .val (.int p2), .val (.int p3), .val (.int p4), .val (.int p5), .val (.int p6), .val (.long (own_minL (p1.toInt64) (p2.toInt64))), .second, .val (.long (own_maxL (p1.toInt64) (p2.toInt64))), .second, .unset, .unset, .unset, .unset, .unset, .unset, .unset, .unset, .unset, .unset, .unset]) rfl k) ?_
  show Go p.tables e below s _ _ _ (T3.setTop (mkF m 18 #[.val (.int p1), .val (.int p2), .val (.int p3), .val (.int p4), .val (.int p5), .val (.int p6), .val (.long (own_minL (p1.toInt64) (p2.toInt64))), .second, .val (.long (own_maxL (p1.toInt64) (p2.toInt64))), .second, .unset, .unset, .unset, .unset, .unset, .unset, .unset, .unset, .unset, .unset, .unset] []))
  refine Go.on (fun t k => XS.lload X3.here hx rfl (hb hby at_18) rfl k) ?_
  show Go p.tables e below s _ _ _ (T3.setTop (mkF m 20 #[.val (.int p1), .val (.int p2), .val (.int p3), .val (.int p4), .val (.int p5), .val (.int p6), .val (.long (own_minL (p1.toInt64) (p2.toInt64))), .second, .val (.long (own_maxL (p1.toInt64) (p2.toInt64))), .second, .unset, .unset, .unset, .unset, .unset, .unset, .unset, .unset, .unset, .unset, .unset] [(.long (own_minL (p1.toInt64) (p2.toInt64)))]))
  refine Go.on (fun t k => XS.lload X3.here hx rfl (hb hby at_20) rfl k) ?_
  show Go p.tables e below s _ _ _ (T3.setTop (mkF m 22 #[.val (.int p1), .val (.int p2), .val (.int p3), .val (.int p4), .val (.int p5), .val (.int p6), .val (.long (own_minL (p1.toInt64) (p2.toInt64))), .second, .val (.long (own_maxL (p1.toInt64) (p2.toInt64))), .second, .unset, .unset, .unset, .unset, .unset, .unset, .unset, .unset, .unset, .unset, .unset] [(.long (own_maxL (p1.toInt64) (p2.toInt64))), (.long (own_minL (p1.toInt64) (p2.toInt64)))]))
  refine Go.on (fun t k => XS.lcmp X3.here hx rfl (hb hby at_22) rfl k) ?_
  show Go p.tables e below s _ _ _ (T3.setTop (mkF m 23 #[.val (.int p1), .val (.int p2), .val (.int p3), .val (.int p4), .val (.int p5), .val (.int p6), .val (.long (own_minL (p1.toInt64) (p2.toInt64))), .second, .val (.long (own_maxL (p1.toInt64) (p2.toInt64))), .second, .unset, .unset, .unset, .unset, .unset, .unset, .unset, .unset, .unset, .unset, .unset] [(.int (lcmpW (own_minL (p1.toInt64) (p2.toInt64)) (own_maxL (p1.toInt64) (p2.toInt64))))]))
  have J5 : Go p.tables e below s (Q0 Z p1 p2 p3 p4 p5 p6 h0 n0) room_1.cells room_1.slots (T3.setTop (mkF m 32 #[.val (.int p1), .val (.int p2), .val (.int p3), .val (.int p4), .val (.int p5), .val (.int p6), .val (.long (own_minL (p1.toInt64) (p2.toInt64))), .second, .val (.long (own_hi p1.toInt64 p2.toInt64)), .second, .unset, .unset, .unset, .unset, .unset, .unset, .unset, .unset, .unset, .unset, .unset] [])) → Go p.tables e below s (Q0 Z p1 p2 p3 p4 p5 p6 h0 n0) room_1.cells room_1.slots (T3.setTop (mkF m 23 #[.val (.int p1), .val (.int p2), .val (.int p3), .val (.int p4), .val (.int p5), .val (.int p6), .val (.long (own_minL (p1.toInt64) (p2.toInt64))), .second, .val (.long (own_maxL (p1.toInt64) (p2.toInt64))), .second, .unset, .unset, .unset, .unset, .unset, .unset, .unset, .unset, .unset, .unset, .unset] [(.int (lcmpW (own_minL (p1.toInt64) (p2.toInt64)) (own_maxL (p1.toInt64) (p2.toInt64))))])) := by
    intro kJ
    by_cases hc23_6 : (lcmpW (own_minL (p1.toInt64) (p2.toInt64)) (own_maxL (p1.toInt64) (p2.toInt64))) = (0 : Int32)
    · refine Go.on (fun t k => XS.ifNo X3.here hx rfl (hb hby at_23) rfl ((if0 _ _).trans (teq hc23_6).2) k) ?_
      show Go p.tables e below s _ _ _ (T3.setTop (mkF m 26 #[.val (.int p1), .val (.int p2), .val (.int p3), .val (.int p4), .val (.int p5), .val (.int p6), .val (.long (own_minL (p1.toInt64) (p2.toInt64))), .second, .val (.long (own_maxL (p1.toInt64) (p2.toInt64))), .second, .unset, .unset, .unset, .unset, .unset, .unset, .unset, .unset, .unset, .unset, .unset] []))
      refine Go.on (fun t k => XS.lload X3.here hx rfl (hb hby at_26) rfl k) ?_
      show Go p.tables e below s _ _ _ (T3.setTop (mkF m 28 #[.val (.int p1), .val (.int p2), .val (.int p3), .val (.int p4), .val (.int p5), .val (.int p6), .val (.long (own_minL (p1.toInt64) (p2.toInt64))), .second, .val (.long (own_maxL (p1.toInt64) (p2.toInt64))), .second, .unset, .unset, .unset, .unset, .unset, .unset, .unset, .unset, .unset, .unset, .unset] [(.long (own_minL (p1.toInt64) (p2.toInt64)))]))
      refine Go.on (fun t k => XS.lconst X3.here hx rfl (hb hby at_28) k) ?_
      show Go p.tables e below s _ _ _ (T3.setTop (mkF m 29 #[.val (.int p1), .val (.int p2), .val (.int p3), .val (.int p4), .val (.int p5), .val (.int p6), .val (.long (own_minL (p1.toInt64) (p2.toInt64))), .second, .val (.long (own_maxL (p1.toInt64) (p2.toInt64))), .second, .unset, .unset, .unset, .unset, .unset, .unset, .unset, .unset, .unset, .unset, .unset] [(.long (1 : Int64)), (.long (own_minL (p1.toInt64) (p2.toInt64)))]))
      refine Go.on (fun t k => XS.ladd X3.here hx rfl (hb hby at_29) rfl k) ?_
      show Go p.tables e below s _ _ _ (T3.setTop (mkF m 30 #[.val (.int p1), .val (.int p2), .val (.int p3), .val (.int p4), .val (.int p5), .val (.int p6), .val (.long (own_minL (p1.toInt64) (p2.toInt64))), .second, .val (.long (own_maxL (p1.toInt64) (p2.toInt64))), .second, .unset, .unset, .unset, .unset, .unset, .unset, .unset, .unset, .unset, .unset, .unset] [(.long ((own_minL (p1.toInt64) (p2.toInt64)) + (1 : Int64)))]))
      refine Go.on (fun t k => XS.lstore X3.here hx rfl (hb hby at_30) rfl (l' := #[.val (.int p1), .val (.int p2), .val (.int p3), .val (.int p4), .val (.int p5), .val (.int p6), .val (.long (own_minL (p1.toInt64) (p2.toInt64))), .second, .val (.long ((own_minL (p1.toInt64) (p2.toInt64)) + (1 : Int64))), .second, .unset, .unset, .unset, .unset, .unset, .unset, .unset, .unset, .unset, .unset, .unset]) rfl k) ?_
      show Go p.tables e below s _ _ _ (T3.setTop (mkF m 32 #[.val (.int p1), .val (.int p2), .val (.int p3), .val (.int p4), .val (.int p5), .val (.int p6), .val (.long (own_minL (p1.toInt64) (p2.toInt64))), .second, .val (.long ((own_minL (p1.toInt64) (p2.toInt64)) + (1 : Int64))), .second, .unset, .unset, .unset, .unset, .unset, .unset, .unset, .unset, .unset, .unset, .unset] []))
      have eJ : own_hi p1.toInt64 p2.toInt64 = ((own_minL (p1.toInt64) (p2.toInt64)) + (1 : Int64)) := if_pos ((lw_eq _ _).mp hc23_6)
      rw [eJ] at kJ
      exact kJ
    · refine Go.on (fun t k => XS.ifYes X3.here hx rfl (pc0 := 23) (pc' := 32) rfl (hb hby at_23) rfl ((if0 _ _).trans (feq hc23_6).2) (by decide) (by decide) k) ?_
      show Go p.tables e below s _ _ _ (T3.setTop (mkF m 32 #[.val (.int p1), .val (.int p2), .val (.int p3), .val (.int p4), .val (.int p5), .val (.int p6), .val (.long (own_minL (p1.toInt64) (p2.toInt64))), .second, .val (.long (own_maxL (p1.toInt64) (p2.toInt64))), .second, .unset, .unset, .unset, .unset, .unset, .unset, .unset, .unset, .unset, .unset, .unset] []))
      have eJ : own_hi p1.toInt64 p2.toInt64 = (own_maxL (p1.toInt64) (p2.toInt64)) := if_neg (fun q => hc23_6 ((lw_eq _ _).mpr q))
      rw [eJ] at kJ
      exact kJ
  refine J5 ?_
  show Go p.tables e below s _ _ _ (T3.setTop (mkF m 32 #[.val (.int p1), .val (.int p2), .val (.int p3), .val (.int p4), .val (.int p5), .val (.int p6), .val (.long (own_minL (p1.toInt64) (p2.toInt64))), .second, .val (.long (own_hi p1.toInt64 p2.toInt64)), .second, .unset, .unset, .unset, .unset, .unset, .unset, .unset, .unset, .unset, .unset, .unset] []))
  refine Go.on (fun t k => XS.iloadN X3.here hx rfl (hb hby at_32) rfl k) ?_
  show Go p.tables e below s _ _ _ (T3.setTop (mkF m 33 #[.val (.int p1), .val (.int p2), .val (.int p3), .val (.int p4), .val (.int p5), .val (.int p6), .val (.long (own_minL (p1.toInt64) (p2.toInt64))), .second, .val (.long (own_hi p1.toInt64 p2.toInt64)), .second, .unset, .unset, .unset, .unset, .unset, .unset, .unset, .unset, .unset, .unset, .unset] [(.int p3)]))
  refine Go.on (fun t k => XS.i2l X3.here hx rfl (hb hby at_33) rfl k) ?_
  show Go p.tables e below s _ _ _ (T3.setTop (mkF m 34 #[.val (.int p1), .val (.int p2), .val (.int p3), .val (.int p4), .val (.int p5), .val (.int p6), .val (.long (own_minL (p1.toInt64) (p2.toInt64))), .second, .val (.long (own_hi p1.toInt64 p2.toInt64)), .second, .unset, .unset, .unset, .unset, .unset, .unset, .unset, .unset, .unset, .unset, .unset] [(.long (p3.toInt64))]))
  refine Go.on (fun t k => XS.iloadN X3.here hx rfl (hb hby at_34) rfl k) ?_
  show Go p.tables e below s _ _ _ (T3.setTop (mkF m 35 #[.val (.int p1), .val (.int p2), .val (.int p3), .val (.int p4), .val (.int p5), .val (.int p6), .val (.long (own_minL (p1.toInt64) (p2.toInt64))), .second, .val (.long (own_hi p1.toInt64 p2.toInt64)), .second, .unset, .unset, .unset, .unset, .unset, .unset, .unset, .unset, .unset, .unset, .unset] [(.int p4), (.long (p3.toInt64))]))
  refine Go.on (fun t k => XS.i2l X3.here hx rfl (hb hby at_35) rfl k) ?_
  show Go p.tables e below s _ _ _ (T3.setTop (mkF m 36 #[.val (.int p1), .val (.int p2), .val (.int p3), .val (.int p4), .val (.int p5), .val (.int p6), .val (.long (own_minL (p1.toInt64) (p2.toInt64))), .second, .val (.long (own_hi p1.toInt64 p2.toInt64)), .second, .unset, .unset, .unset, .unset, .unset, .unset, .unset, .unset, .unset, .unset, .unset] [(.long (p4.toInt64)), (.long (p3.toInt64))]))
  obtain ⟨_, _, ⟨T7, L7, k7, n7⟩, -, X7, ⟨Lc7, hQ7, l7, y7, z7⟩, st7⟩ := Jvm.LawKit.callS X3 hx (y := (⟨"java/lang/Math", "min", "(JJ)J"⟩ : MethodName)) hown (mvT hZ (hw _ (List.mem_of_getElem? (i := 0) rfl))) (mvT hZ (hw _ (List.mem_of_getElem? (i := 1) rfl))) (mvT hZ (hw _ (List.mem_of_getElem? (i := 2) rfl))) (mvT hZ (hw _ (List.mem_of_getElem? (i := 3) rfl))) (by decide) (backOf (W := 0) (rm1 l Z a0 hw [] (p3.toInt64) (p4.toInt64) h0 n0 Z0 ) hZ (hw _ (List.mem_of_getElem? (i := 3) rfl)) (hw _ (List.mem_of_getElem? (i := 2) rfl)) (by decide) (by decide)) (g := (mkF m 36 #[.val (.int p1), .val (.int p2), .val (.int p3), .val (.int p4), .val (.int p5), .val (.int p6), .val (.long (own_minL (p1.toInt64) (p2.toInt64))), .second, .val (.long (own_hi p1.toInt64 p2.toInt64)), .second, .unset, .unset, .unset, .unset, .unset, .unset, .unset, .unset, .unset, .unset, .unset] [(.long (p4.toInt64)), (.long (p3.toInt64))])) rfl (by rw [hml]; rfl) (argsL := [(.long (p3.toInt64)), (.long (p4.toInt64))]) (rest := []) (lenOf pd__40_JJ_41_J rfl) rfl (by show 2 * 0 + _ ≤ _; exact Nat.le_of_eq rfl) (hb hby at_36) (fun _ _ => ⟨rfl, e3, (by decide : ((0 + 0) + 0) + 0 ≤ _), (by decide : ((0 + 0) + 0) + 0 ≤ _)⟩)
  dsimp only [Pt.U, Pt.locs, Pt.cells, Pt.slots] at X7 l7 y7 z7 st7 hQ7
  rw [l7, y7, z7] at X7
  obtain ⟨rfl, Nq7, e7⟩ := hQ7
  have Np8 := Fr.app Np4 Nq7
  refine Go.on st7 ?_
  show Go p.tables e below s _ _ _ (T7.setTop (mkF m 39 #[.val (.int p1), .val (.int p2), .val (.int p3), .val (.int p4), .val (.int p5), .val (.int p6), .val (.long (own_minL (p1.toInt64) (p2.toInt64))), .second, .val (.long (own_hi p1.toInt64 p2.toInt64)), .second, .unset, .unset, .unset, .unset, .unset, .unset, .unset, .unset, .unset, .unset, .unset] [(.long (own_minL (p3.toInt64) (p4.toInt64)))]))
  refine Go.on (fun t k => XS.lstore X7.here hx rfl (hb hby at_39) rfl (l' := #[.val (.int p1), .val (.int p2), .val (.int p3), .val (.int p4), .val (.int p5), .val (.int p6), .val (.long (own_minL (p1.toInt64) (p2.toInt64))), .second, .val (.long (own_hi p1.toInt64 p2.toInt64)), .second, .val (.long (own_minL (p3.toInt64) (p4.toInt64))), .second, .unset, .unset, .unset, .unset, .unset, .unset, .unset, .unset, .unset]) rfl k) ?_
  show Go p.tables e below s _ _ _ (T7.setTop (mkF m 41 #[.val (.int p1), .val (.int p2), .val (.int p3), .val (.int p4), .val (.int p5), .val (.int p6), .val (.long (own_minL (p1.toInt64) (p2.toInt64))), .second, .val (.long (own_hi p1.toInt64 p2.toInt64)), .second, .val (.long (own_minL (p3.toInt64) (p4.toInt64))), .second, .unset, .unset, .unset, .unset, .unset, .unset, .unset, .unset, .unset] []))
  refine Go.on (fun t k => XS.iloadN X7.here hx rfl (hb hby at_41) rfl k) ?_
  show Go p.tables e below s _ _ _ (T7.setTop (mkF m 42 #[.val (.int p1), .val (.int p2), .val (.int p3), .val (.int p4), .val (.int p5), .val (.int p6), .val (.long (own_minL (p1.toInt64) (p2.toInt64))), .second, .val (.long (own_hi p1.toInt64 p2.toInt64)), .second, .val (.long (own_minL (p3.toInt64) (p4.toInt64))), .second, .unset, .unset, .unset, .unset, .unset, .unset, .unset, .unset, .unset] [(.int p3)]))
  refine Go.on (fun t k => XS.i2l X7.here hx rfl (hb hby at_42) rfl k) ?_
  show Go p.tables e below s _ _ _ (T7.setTop (mkF m 43 #[.val (.int p1), .val (.int p2), .val (.int p3), .val (.int p4), .val (.int p5), .val (.int p6), .val (.long (own_minL (p1.toInt64) (p2.toInt64))), .second, .val (.long (own_hi p1.toInt64 p2.toInt64)), .second, .val (.long (own_minL (p3.toInt64) (p4.toInt64))), .second, .unset, .unset, .unset, .unset, .unset, .unset, .unset, .unset, .unset] [(.long (p3.toInt64))]))
  refine Go.on (fun t k => XS.iloadN X7.here hx rfl (hb hby at_43) rfl k) ?_
  show Go p.tables e below s _ _ _ (T7.setTop (mkF m 44 #[.val (.int p1), .val (.int p2), .val (.int p3), .val (.int p4), .val (.int p5), .val (.int p6), .val (.long (own_minL (p1.toInt64) (p2.toInt64))), .second, .val (.long (own_hi p1.toInt64 p2.toInt64)), .second, .val (.long (own_minL (p3.toInt64) (p4.toInt64))), .second, .unset, .unset, .unset, .unset, .unset, .unset, .unset, .unset, .unset] [(.int p4), (.long (p3.toInt64))]))
  refine Go.on (fun t k => XS.i2l X7.here hx rfl (hb hby at_44) rfl k) ?_
  show Go p.tables e below s _ _ _ (T7.setTop (mkF m 45 #[.val (.int p1), .val (.int p2), .val (.int p3), .val (.int p4), .val (.int p5), .val (.int p6), .val (.long (own_minL (p1.toInt64) (p2.toInt64))), .second, .val (.long (own_hi p1.toInt64 p2.toInt64)), .second, .val (.long (own_minL (p3.toInt64) (p4.toInt64))), .second, .unset, .unset, .unset, .unset, .unset, .unset, .unset, .unset, .unset] [(.long (p4.toInt64)), (.long (p3.toInt64))]))
  obtain ⟨_, _, ⟨T9, L9, k9, n9⟩, -, X9, ⟨Lc9, hQ9, l9, y9, z9⟩, st9⟩ := Jvm.LawKit.callS X7 hx (y := (⟨"java/lang/Math", "max", "(JJ)J"⟩ : MethodName)) hown (mvT hZ (hw _ (List.mem_of_getElem? (i := 4) rfl))) (mvT hZ (hw _ (List.mem_of_getElem? (i := 5) rfl))) (mvT hZ (hw _ (List.mem_of_getElem? (i := 2) rfl))) (mvT hZ (hw _ (List.mem_of_getElem? (i := 6) rfl))) (by decide) (backOf (W := 0) (rm2 l Z a0 hw [] (p3.toInt64) (p4.toInt64) h0 n0 Z0 ) hZ (hw _ (List.mem_of_getElem? (i := 6) rfl)) (hw _ (List.mem_of_getElem? (i := 2) rfl)) (by decide) (by decide)) (g := (mkF m 45 #[.val (.int p1), .val (.int p2), .val (.int p3), .val (.int p4), .val (.int p5), .val (.int p6), .val (.long (own_minL (p1.toInt64) (p2.toInt64))), .second, .val (.long (own_hi p1.toInt64 p2.toInt64)), .second, .val (.long (own_minL (p3.toInt64) (p4.toInt64))), .second, .unset, .unset, .unset, .unset, .unset, .unset, .unset, .unset, .unset] [(.long (p4.toInt64)), (.long (p3.toInt64))])) rfl (by rw [hml]; rfl) (argsL := [(.long (p3.toInt64)), (.long (p4.toInt64))]) (rest := []) (lenOf pd__40_JJ_41_J rfl) rfl (by show 2 * 0 + _ ≤ _; exact Nat.le_of_eq rfl) (hb hby at_45) (fun _ _ => ⟨rfl, e7, (by decide : (((0 + 0) + 0) + 0) + 0 ≤ _), (by decide : (((0 + 0) + 0) + 0) + 0 ≤ _)⟩)
  dsimp only [Pt.U, Pt.locs, Pt.cells, Pt.slots] at X9 l9 y9 z9 st9 hQ9
  rw [l9, y9, z9] at X9
  obtain ⟨rfl, Nq9, e9⟩ := hQ9
  have Np10 := Fr.app Np8 Nq9
  refine Go.on st9 ?_
  show Go p.tables e below s _ _ _ (T9.setTop (mkF m 48 #[.val (.int p1), .val (.int p2), .val (.int p3), .val (.int p4), .val (.int p5), .val (.int p6), .val (.long (own_minL (p1.toInt64) (p2.toInt64))), .second, .val (.long (own_hi p1.toInt64 p2.toInt64)), .second, .val (.long (own_minL (p3.toInt64) (p4.toInt64))), .second, .unset, .unset, .unset, .unset, .unset, .unset, .unset, .unset, .unset] [(.long (own_maxL (p3.toInt64) (p4.toInt64)))]))
  refine Go.on (fun t k => XS.lstore X9.here hx rfl (hb hby at_48) rfl (l' := #[.val (.int p1), .val (.int p2), .val (.int p3), .val (.int p4), .val (.int p5), .val (.int p6), .val (.long (own_minL (p1.toInt64) (p2.toInt64))), .second, .val (.long (own_hi p1.toInt64 p2.toInt64)), .second, .val (.long (own_minL (p3.toInt64) (p4.toInt64))), .second, .val (.long (own_maxL (p3.toInt64) (p4.toInt64))), .second, .unset, .unset, .unset, .unset, .unset, .unset, .unset]) rfl k) ?_
  show Go p.tables e below s _ _ _ (T9.setTop (mkF m 50 #[.val (.int p1), .val (.int p2), .val (.int p3), .val (.int p4), .val (.int p5), .val (.int p6), .val (.long (own_minL (p1.toInt64) (p2.toInt64))), .second, .val (.long (own_hi p1.toInt64 p2.toInt64)), .second, .val (.long (own_minL (p3.toInt64) (p4.toInt64))), .second, .val (.long (own_maxL (p3.toInt64) (p4.toInt64))), .second, .unset, .unset, .unset, .unset, .unset, .unset, .unset] []))
  refine Go.on (fun t k => XS.lload X9.here hx rfl (hb hby at_50) rfl k) ?_
  show Go p.tables e below s _ _ _ (T9.setTop (mkF m 52 #[.val (.int p1), .val (.int p2), .val (.int p3), .val (.int p4), .val (.int p5), .val (.int p6), .val (.long (own_minL (p1.toInt64) (p2.toInt64))), .second, .val (.long (own_hi p1.toInt64 p2.toInt64)), .second, .val (.long (own_minL (p3.toInt64) (p4.toInt64))), .second, .val (.long (own_maxL (p3.toInt64) (p4.toInt64))), .second, .unset, .unset, .unset, .unset, .unset, .unset, .unset] [(.long (own_minL (p3.toInt64) (p4.toInt64)))]))
  refine Go.on (fun t k => XS.lload X9.here hx rfl (hb hby at_52) rfl k) ?_
  show Go p.tables e below s _ _ _ (T9.setTop (mkF m 54 #[.val (.int p1), .val (.int p2), .val (.int p3), .val (.int p4), .val (.int p5), .val (.int p6), .val (.long (own_minL (p1.toInt64) (p2.toInt64))), .second, .val (.long (own_hi p1.toInt64 p2.toInt64)), .second, .val (.long (own_minL (p3.toInt64) (p4.toInt64))), .second, .val (.long (own_maxL (p3.toInt64) (p4.toInt64))), .second, .unset, .unset, .unset, .unset, .unset, .unset, .unset] [(.long (own_maxL (p3.toInt64) (p4.toInt64))), (.long (own_minL (p3.toInt64) (p4.toInt64)))]))
  refine Go.on (fun t k => XS.lcmp X9.here hx rfl (hb hby at_54) rfl k) ?_
  show Go p.tables e below s _ _ _ (T9.setTop (mkF m 55 #[.val (.int p1), .val (.int p2), .val (.int p3), .val (.int p4), .val (.int p5), .val (.int p6), .val (.long (own_minL (p1.toInt64) (p2.toInt64))), .second, .val (.long (own_hi p1.toInt64 p2.toInt64)), .second, .val (.long (own_minL (p3.toInt64) (p4.toInt64))), .second, .val (.long (own_maxL (p3.toInt64) (p4.toInt64))), .second, .unset, .unset, .unset, .unset, .unset, .unset, .unset] [(.int (lcmpW (own_minL (p3.toInt64) (p4.toInt64)) (own_maxL (p3.toInt64) (p4.toInt64))))]))
  have J11 : Go p.tables e below s (Q0 Z p1 p2 p3 p4 p5 p6 h0 n0) room_1.cells room_1.slots (T9.setTop (mkF m 64 #[.val (.int p1), .val (.int p2), .val (.int p3), .val (.int p4), .val (.int p5), .val (.int p6), .val (.long (own_minL (p1.toInt64) (p2.toInt64))), .second, .val (.long (own_hi p1.toInt64 p2.toInt64)), .second, .val (.long (own_minL (p3.toInt64) (p4.toInt64))), .second, .val (.long (own_hi p3.toInt64 p4.toInt64)), .second, .unset, .unset, .unset, .unset, .unset, .unset, .unset] [])) → Go p.tables e below s (Q0 Z p1 p2 p3 p4 p5 p6 h0 n0) room_1.cells room_1.slots (T9.setTop (mkF m 55 #[.val (.int p1), .val (.int p2), .val (.int p3), .val (.int p4), .val (.int p5), .val (.int p6), .val (.long (own_minL (p1.toInt64) (p2.toInt64))), .second, .val (.long (own_hi p1.toInt64 p2.toInt64)), .second, .val (.long (own_minL (p3.toInt64) (p4.toInt64))), .second, .val (.long (own_maxL (p3.toInt64) (p4.toInt64))), .second, .unset, .unset, .unset, .unset, .unset, .unset, .unset] [(.int (lcmpW (own_minL (p3.toInt64) (p4.toInt64)) (own_maxL (p3.toInt64) (p4.toInt64))))])) := by
    intro kJ
    by_cases hc55_12 : (lcmpW (own_minL (p3.toInt64) (p4.toInt64)) (own_maxL (p3.toInt64) (p4.toInt64))) = (0 : Int32)
    · refine Go.on (fun t k => XS.ifNo X9.here hx rfl (hb hby at_55) rfl ((if0 _ _).trans (teq hc55_12).2) k) ?_
      show Go p.tables e below s _ _ _ (T9.setTop (mkF m 58 #[.val (.int p1), .val (.int p2), .val (.int p3), .val (.int p4), .val (.int p5), .val (.int p6), .val (.long (own_minL (p1.toInt64) (p2.toInt64))), .second, .val (.long (own_hi p1.toInt64 p2.toInt64)), .second, .val (.long (own_minL (p3.toInt64) (p4.toInt64))), .second, .val (.long (own_maxL (p3.toInt64) (p4.toInt64))), .second, .unset, .unset, .unset, .unset, .unset, .unset, .unset] []))
      refine Go.on (fun t k => XS.lload X9.here hx rfl (hb hby at_58) rfl k) ?_
      show Go p.tables e below s _ _ _ (T9.setTop (mkF m 60 #[.val (.int p1), .val (.int p2), .val (.int p3), .val (.int p4), .val (.int p5), .val (.int p6), .val (.long (own_minL (p1.toInt64) (p2.toInt64))), .second, .val (.long (own_hi p1.toInt64 p2.toInt64)), .second, .val (.long (own_minL (p3.toInt64) (p4.toInt64))), .second, .val (.long (own_maxL (p3.toInt64) (p4.toInt64))), .second, .unset, .unset, .unset, .unset, .unset, .unset, .unset] [(.long (own_minL (p3.toInt64) (p4.toInt64)))]))
      refine Go.on (fun t k => XS.lconst X9.here hx rfl (hb hby at_60) k) ?_
      show Go p.tables e below s _ _ _ (T9.setTop (mkF m 61 #[.val (.int p1), .val (.int p2), .val (.int p3), .val (.int p4), .val (.int p5), .val (.int p6), .val (.long (own_minL (p1.toInt64) (p2.toInt64))), .second, .val (.long (own_hi p1.toInt64 p2.toInt64)), .second, .val (.long (own_minL (p3.toInt64) (p4.toInt64))), .second, .val (.long (own_maxL (p3.toInt64) (p4.toInt64))), .second, .unset, .unset, .unset, .unset, .unset, .unset, .unset] [(.long (1 : Int64)), (.long (own_minL (p3.toInt64) (p4.toInt64)))]))
      refine Go.on (fun t k => XS.ladd X9.here hx rfl (hb hby at_61) rfl k) ?_
      show Go p.tables e below s _ _ _ (T9.setTop (mkF m 62 #[.val (.int p1), .val (.int p2), .val (.int p3), .val (.int p4), .val (.int p5), .val (.int p6), .val (.long (own_minL (p1.toInt64) (p2.toInt64))), .second, .val (.long (own_hi p1.toInt64 p2.toInt64)), .second, .val (.long (own_minL (p3.toInt64) (p4.toInt64))), .second, .val (.long (own_maxL (p3.toInt64) (p4.toInt64))), .second, .unset, .unset, .unset, .unset, .unset, .unset, .unset] [(.long ((own_minL (p3.toInt64) (p4.toInt64)) + (1 : Int64)))]))
      refine Go.on (fun t k => XS.lstore X9.here hx rfl (hb hby at_62) rfl (l' := #[.val (.int p1), .val (.int p2), .val (.int p3), .val (.int p4), .val (.int p5), .val (.int p6), .val (.long (own_minL (p1.toInt64) (p2.toInt64))), .second, .val (.long (own_hi p1.toInt64 p2.toInt64)), .second, .val (.long (own_minL (p3.toInt64) (p4.toInt64))), .second, .val (.long ((own_minL (p3.toInt64) (p4.toInt64)) + (1 : Int64))), .second, .unset, .unset, .unset, .unset, .unset, .unset, .unset]) rfl k) ?_
      show Go p.tables e below s _ _ _ (T9.setTop (mkF m 64 #[.val (.int p1), .val (.int p2), .val (.int p3), .val (.int p4), .val (.int p5), .val (.int p6), .val (.long (own_minL (p1.toInt64) (p2.toInt64))), .second, .val (.long (own_hi p1.toInt64 p2.toInt64)), .second, .val (.long (own_minL (p3.toInt64) (p4.toInt64))), .second, .val (.long ((own_minL (p3.toInt64) (p4.toInt64)) + (1 : Int64))), .second, .unset, .unset, .unset, .unset, .unset, .unset, .unset] []))
      have eJ : own_hi p3.toInt64 p4.toInt64 = ((own_minL (p3.toInt64) (p4.toInt64)) + (1 : Int64)) := if_pos ((lw_eq _ _).mp hc55_12)
      rw [eJ] at kJ
      exact kJ
    · refine Go.on (fun t k => XS.ifYes X9.here hx rfl (pc0 := 55) (pc' := 64) rfl (hb hby at_55) rfl ((if0 _ _).trans (feq hc55_12).2) (by decide) (by decide) k) ?_
      show Go p.tables e below s _ _ _ (T9.setTop (mkF m 64 #[.val (.int p1), .val (.int p2), .val (.int p3), .val (.int p4), .val (.int p5), .val (.int p6), .val (.long (own_minL (p1.toInt64) (p2.toInt64))), .second, .val (.long (own_hi p1.toInt64 p2.toInt64)), .second, .val (.long (own_minL (p3.toInt64) (p4.toInt64))), .second, .val (.long (own_maxL (p3.toInt64) (p4.toInt64))), .second, .unset, .unset, .unset, .unset, .unset, .unset, .unset] []))
      have eJ : own_hi p3.toInt64 p4.toInt64 = (own_maxL (p3.toInt64) (p4.toInt64)) := if_neg (fun q => hc55_12 ((lw_eq _ _).mpr q))
      rw [eJ] at kJ
      exact kJ
  refine J11 ?_
  show Go p.tables e below s _ _ _ (T9.setTop (mkF m 64 #[.val (.int p1), .val (.int p2), .val (.int p3), .val (.int p4), .val (.int p5), .val (.int p6), .val (.long (own_minL (p1.toInt64) (p2.toInt64))), .second, .val (.long (own_hi p1.toInt64 p2.toInt64)), .second, .val (.long (own_minL (p3.toInt64) (p4.toInt64))), .second, .val (.long (own_hi p3.toInt64 p4.toInt64)), .second, .unset, .unset, .unset, .unset, .unset, .unset, .unset] []))
  refine Go.on (fun t k => XS.iload X9.here hx rfl (hb hby at_64) rfl k) ?_
  show Go p.tables e below s _ _ _ (T9.setTop (mkF m 66 #[.val (.int p1), .val (.int p2), .val (.int p3), .val (.int p4), .val (.int p5), .val (.int p6), .val (.long (own_minL (p1.toInt64) (p2.toInt64))), .second, .val (.long (own_hi p1.toInt64 p2.toInt64)), .second, .val (.long (own_minL (p3.toInt64) (p4.toInt64))), .second, .val (.long (own_hi p3.toInt64 p4.toInt64)), .second, .unset, .unset, .unset, .unset, .unset, .unset, .unset] [(.int p5)]))
  refine Go.on (fun t k => XS.i2l X9.here hx rfl (hb hby at_66) rfl k) ?_
  show Go p.tables e below s _ _ _ (T9.setTop (mkF m 67 #[.val (.int p1), .val (.int p2), .val (.int p3), .val (.int p4), .val (.int p5), .val (.int p6), .val (.long (own_minL (p1.toInt64) (p2.toInt64))), .second, .val (.long (own_hi p1.toInt64 p2.toInt64)), .second, .val (.long (own_minL (p3.toInt64) (p4.toInt64))), .second, .val (.long (own_hi p3.toInt64 p4.toInt64)), .second, .unset, .unset, .unset, .unset, .unset, .unset, .unset] [(.long (p5.toInt64))]))
  refine Go.on (fun t k => XS.lstore X9.here hx rfl (hb hby at_67) rfl (l' := #[.val (.int p1), .val (.int p2), .val (.int p3), .val (.int p4), .val (.int p5), .val (.int p6), .val (.long (own_minL (p1.toInt64) (p2.toInt64))), .second, .val (.long (own_hi p1.toInt64 p2.toInt64)), .second, .val (.long (own_minL (p3.toInt64) (p4.toInt64))), .second, .val (.long (own_hi p3.toInt64 p4.toInt64)), .second, .val (.long (p5.toInt64)), .second, .unset, .unset, .unset, .unset, .unset]) rfl k) ?_
  show Go p.tables e below s _ _ _ (T9.setTop (mkF m 69 #[.val (.int p1), .val (.int p2), .val (.int p3), .val (.int p4), .val (.int p5), .val (.int p6), .val (.long (own_minL (p1.toInt64) (p2.toInt64))), .second, .val (.long (own_hi p1.toInt64 p2.toInt64)), .second, .val (.long (own_minL (p3.toInt64) (p4.toInt64))), .second, .val (.long (own_hi p3.toInt64 p4.toInt64)), .second, .val (.long (p5.toInt64)), .second, .unset, .unset, .unset, .unset, .unset] []))
  refine Go.on (fun t k => XS.iload X9.here hx rfl (hb hby at_69) rfl k) ?_
  show Go p.tables e below s _ _ _ (T9.setTop (mkF m 71 #[.val (.int p1), .val (.int p2), .val (.int p3), .val (.int p4), .val (.int p5), .val (.int p6), .val (.long (own_minL (p1.toInt64) (p2.toInt64))), .second, .val (.long (own_hi p1.toInt64 p2.toInt64)), .second, .val (.long (own_minL (p3.toInt64) (p4.toInt64))), .second, .val (.long (own_hi p3.toInt64 p4.toInt64)), .second, .val (.long (p5.toInt64)), .second, .unset, .unset, .unset, .unset, .unset] [(.int p6)]))
  refine Go.on (fun t k => XS.i2l X9.here hx rfl (hb hby at_71) rfl k) ?_
  show Go p.tables e below s _ _ _ (T9.setTop (mkF m 72 #[.val (.int p1), .val (.int p2), .val (.int p3), .val (.int p4), .val (.int p5), .val (.int p6), .val (.long (own_minL (p1.toInt64) (p2.toInt64))), .second, .val (.long (own_hi p1.toInt64 p2.toInt64)), .second, .val (.long (own_minL (p3.toInt64) (p4.toInt64))), .second, .val (.long (own_hi p3.toInt64 p4.toInt64)), .second, .val (.long (p5.toInt64)), .second, .unset, .unset, .unset, .unset, .unset] [(.long (p6.toInt64))]))
  refine Go.on (fun t k => XS.lstore X9.here hx rfl (hb hby at_72) rfl (l' := #[.val (.int p1), .val (.int p2), .val (.int p3), .val (.int p4), .val (.int p5), .val (.int p6), .val (.long (own_minL (p1.toInt64) (p2.toInt64))), .second, .val (.long (own_hi p1.toInt64 p2.toInt64)), .second, .val (.long (own_minL (p3.toInt64) (p4.toInt64))), .second, .val (.long (own_hi p3.toInt64 p4.toInt64)), .second, .val (.long (p5.toInt64)), .second, .val (.long (p6.toInt64)), .second, .unset, .unset, .unset]) rfl k) ?_
  show Go p.tables e below s _ _ _ (T9.setTop (mkF m 74 #[.val (.int p1), .val (.int p2), .val (.int p3), .val (.int p4), .val (.int p5), .val (.int p6), .val (.long (own_minL (p1.toInt64) (p2.toInt64))), .second, .val (.long (own_hi p1.toInt64 p2.toInt64)), .second, .val (.long (own_minL (p3.toInt64) (p4.toInt64))), .second, .val (.long (own_hi p3.toInt64 p4.toInt64)), .second, .val (.long (p5.toInt64)), .second, .val (.long (p6.toInt64)), .second, .unset, .unset, .unset] []))
  refine Go.on (fun t k => XS.lload X9.here hx rfl (hb hby at_74) rfl k) ?_
  show Go p.tables e below s _ _ _ (T9.setTop (mkF m 76 #[.val (.int p1), .val (.int p2), .val (.int p3), .val (.int p4), .val (.int p5), .val (.int p6), .val (.long (own_minL (p1.toInt64) (p2.toInt64))), .second, .val (.long (own_hi p1.toInt64 p2.toInt64)), .second, .val (.long (own_minL (p3.toInt64) (p4.toInt64))), .second, .val (.long (own_hi p3.toInt64 p4.toInt64)), .second, .val (.long (p5.toInt64)), .second, .val (.long (p6.toInt64)), .second, .unset, .unset, .unset] [(.long (own_minL (p1.toInt64) (p2.toInt64)))]))
  refine Go.on (fun t k => XS.lload X9.here hx rfl (hb hby at_76) rfl k) ?_
  show Go p.tables e below s _ _ _ (T9.setTop (mkF m 78 #[.val (.int p1), .val (.int p2), .val (.int p3), .val (.int p4), .val (.int p5), .val (.int p6), .val (.long (own_minL (p1.toInt64) (p2.toInt64))), .second, .val (.long (own_hi p1.toInt64 p2.toInt64)), .second, .val (.long (own_minL (p3.toInt64) (p4.toInt64))), .second, .val (.long (own_hi p3.toInt64 p4.toInt64)), .second, .val (.long (p5.toInt64)), .second, .val (.long (p6.toInt64)), .second, .unset, .unset, .unset] [(.long (own_hi p1.toInt64 p2.toInt64)), (.long (own_minL (p1.toInt64) (p2.toInt64)))]))
  refine Go.on (fun t k => XS.lload X9.here hx rfl (hb hby at_78) rfl k) ?_
  show Go p.tables e below s _ _ _ (T9.setTop (mkF m 80 #[.val (.int p1), .val (.int p2), .val (.int p3), .val (.int p4), .val (.int p5), .val (.int p6), .val (.long (own_minL (p1.toInt64) (p2.toInt64))), .second, .val (.long (own_hi p1.toInt64 p2.toInt64)), .second, .val (.long (own_minL (p3.toInt64) (p4.toInt64))), .second, .val (.long (own_hi p3.toInt64 p4.toInt64)), .second, .val (.long (p5.toInt64)), .second, .val (.long (p6.toInt64)), .second, .unset, .unset, .unset] [(.long (p5.toInt64)), (.long (own_hi p1.toInt64 p2.toInt64)), (.long (own_minL (p1.toInt64) (p2.toInt64)))]))
  obtain ⟨_, _, ⟨T13, L13, k13, n13⟩, -, X13, ⟨Lc13, hQ13, l13, y13, z13⟩, st13⟩ := Jvm.LawKit.callS X9 hx (y := (⟨"com/example/gridshift/gridshift/SpaceContainsPinLaw", "within", "(JJJ)Z"⟩ : MethodName)) hown (mvT hZ (hw _ (List.mem_of_getElem? (i := 7) rfl))) (mvT hZ (hw _ (List.mem_of_getElem? (i := 8) rfl))) (mvT hZ (hw _ (List.mem_of_getElem? (i := 9) rfl))) (mvT hZ (hw _ (List.mem_of_getElem? (i := 10) rfl))) (by decide) (backOf (W := 0) (rm3 l Z a0 hw [] (own_minL (p1.toInt64) (p2.toInt64)) (own_hi p1.toInt64 p2.toInt64) (p5.toInt64) h0 n0 Z0 ) hZ (hw _ (List.mem_of_getElem? (i := 10) rfl)) (hw _ (List.mem_of_getElem? (i := 9) rfl)) (by decide) (by decide)) (g := (mkF m 80 #[.val (.int p1), .val (.int p2), .val (.int p3), .val (.int p4), .val (.int p5), .val (.int p6), .val (.long (own_minL (p1.toInt64) (p2.toInt64))), .second, .val (.long (own_hi p1.toInt64 p2.toInt64)), .second, .val (.long (own_minL (p3.toInt64) (p4.toInt64))), .second, .val (.long (own_hi p3.toInt64 p4.toInt64)), .second, .val (.long (p5.toInt64)), .second, .val (.long (p6.toInt64)), .second, .unset, .unset, .unset] [(.long (p5.toInt64)), (.long (own_hi p1.toInt64 p2.toInt64)), (.long (own_minL (p1.toInt64) (p2.toInt64)))])) rfl (by rw [hml]; rfl) (argsL := [(.long (own_minL (p1.toInt64) (p2.toInt64))), (.long (own_hi p1.toInt64 p2.toInt64)), (.long (p5.toInt64))]) (rest := []) (lenOf pd__40_JJJ_41_Z rfl) rfl (by show 2 * 0 + _ ≤ _; exact Nat.le_of_eq rfl) (hb hby at_80) (fun _ _ => ⟨rfl, e9, (by decide : ((((0 + 0) + 0) + 0) + 0) + 0 ≤ _), (by decide : ((((0 + 0) + 0) + 0) + 0) + 0 ≤ _)⟩)
  dsimp only [Pt.U, Pt.locs, Pt.cells, Pt.slots] at X13 l13 y13 z13 st13 hQ13
  rw [l13, y13, z13] at X13
  obtain ⟨rfl, Nq13, e13⟩ := hQ13
  have Np14 := Fr.app Np10 Nq13
  refine Go.on st13 ?_
  show Go p.tables e below s _ _ _ (T13.setTop (mkF m 83 #[.val (.int p1), .val (.int p2), .val (.int p3), .val (.int p4), .val (.int p5), .val (.int p6), .val (.long (own_minL (p1.toInt64) (p2.toInt64))), .second, .val (.long (own_hi p1.toInt64 p2.toInt64)), .second, .val (.long (own_minL (p3.toInt64) (p4.toInt64))), .second, .val (.long (own_hi p3.toInt64 p4.toInt64)), .second, .val (.long (p5.toInt64)), .second, .val (.long (p6.toInt64)), .second, .unset, .unset, .unset] [(.int (own_b (¬ lcmpW (p5.toInt64) (own_minL (p1.toInt64) (p2.toInt64)) < (0 : Int32) ∧ ¬ (0 : Int32) < lcmpW (p5.toInt64) (own_hi p1.toInt64 p2.toInt64))))]))
  by_cases hc83_15 : (own_b (¬ lcmpW (p5.toInt64) (own_minL (p1.toInt64) (p2.toInt64)) < (0 : Int32) ∧ ¬ (0 : Int32) < lcmpW (p5.toInt64) (own_hi p1.toInt64 p2.toInt64))) = (0 : Int32)
  · refine Go.on (fun t k => XS.ifYes X13.here hx rfl (pc0 := 83) (pc' := 100) rfl (hb hby at_83) rfl ((if0 _ _).trans (teq hc83_15).1) (by decide) (by decide) k) ?_
    show Go p.tables e below s _ _ _ (T13.setTop (mkF m 100 #[.val (.int p1), .val (.int p2), .val (.int p3), .val (.int p4), .val (.int p5), .val (.int p6), .val (.long (own_minL (p1.toInt64) (p2.toInt64))), .second, .val (.long (own_hi p1.toInt64 p2.toInt64)), .second, .val (.long (own_minL (p3.toInt64) (p4.toInt64))), .second, .val (.long (own_hi p3.toInt64 p4.toInt64)), .second, .val (.long (p5.toInt64)), .second, .val (.long (p6.toInt64)), .second, .unset, .unset, .unset] []))
    refine Go.on (fun t k => XS.iconst X13.here hx rfl (hb hby at_100) k) ?_
    show Go p.tables e below s _ _ _ (T13.setTop (mkF m 101 #[.val (.int p1), .val (.int p2), .val (.int p3), .val (.int p4), .val (.int p5), .val (.int p6), .val (.long (own_minL (p1.toInt64) (p2.toInt64))), .second, .val (.long (own_hi p1.toInt64 p2.toInt64)), .second, .val (.long (own_minL (p3.toInt64) (p4.toInt64))), .second, .val (.long (own_hi p3.toInt64 p4.toInt64)), .second, .val (.long (p5.toInt64)), .second, .val (.long (p6.toInt64)), .second, .unset, .unset, .unset] [(.int (0 : Int32))]))
    refine Go.on (fun t k => XS.istore X13.here hx rfl (hb hby at_101) rfl (l' := #[.val (.int p1), .val (.int p2), .val (.int p3), .val (.int p4), .val (.int p5), .val (.int p6), .val (.long (own_minL (p1.toInt64) (p2.toInt64))), .second, .val (.long (own_hi p1.toInt64 p2.toInt64)), .second, .val (.long (own_minL (p3.toInt64) (p4.toInt64))), .second, .val (.long (own_hi p3.toInt64 p4.toInt64)), .second, .val (.long (p5.toInt64)), .second, .val (.long (p6.toInt64)), .second, .val (.int (0 : Int32)), .unset, .unset]) rfl k) ?_
    show Go p.tables e below s _ _ _ (T13.setTop (mkF m 103 #[.val (.int p1), .val (.int p2), .val (.int p3), .val (.int p4), .val (.int p5), .val (.int p6), .val (.long (own_minL (p1.toInt64) (p2.toInt64))), .second, .val (.long (own_hi p1.toInt64 p2.toInt64)), .second, .val (.long (own_minL (p3.toInt64) (p4.toInt64))), .second, .val (.long (own_hi p3.toInt64 p4.toInt64)), .second, .val (.long (p5.toInt64)), .second, .val (.long (p6.toInt64)), .second, .val (.int (0 : Int32)), .unset, .unset] []))
    obtain ⟨T16, h16, X16, e16, E16, A16, D16, -, st16⟩ := newO X13 hx hZ hown (hw _ (List.mem_of_getElem? (i := 11) rfl)) (hw _ (List.mem_of_getElem? (i := 12) rfl)) (hw _ (List.mem_of_getElem? (i := 13) rfl)) e13 (g := (mkF m 103 #[.val (.int p1), .val (.int p2), .val (.int p3), .val (.int p4), .val (.int p5), .val (.int p6), .val (.long (own_minL (p1.toInt64) (p2.toInt64))), .second, .val (.long (own_hi p1.toInt64 p2.toInt64)), .second, .val (.long (own_minL (p3.toInt64) (p4.toInt64))), .second, .val (.long (own_hi p3.toInt64 p4.toInt64)), .second, .val (.long (p5.toInt64)), .second, .val (.long (p6.toInt64)), .second, .val (.int (0 : Int32)), .unset, .unset] [])) rfl (hb hby at_103) (by decide) (by decide)
    obtain ⟨b16, g16⟩ : ∃ z, z = h0.size := ⟨_, rfl⟩
    rw [← g16] at A16 D16 st16
    have ge17 : n0 ≤ b16 := Nat.le_trans Z0 (Nat.le_of_eq g16.symm)
    have Zp19 := Nat.le_trans Z0 E16.1
    have FminLon_20 : Fld Z h16 b16 "com/example/gridshift/gridshift/Space" "minLon" "D" (.double 0) := D16 (Or.inr (hw _ (List.mem_of_getElem? (i := 34) rfl))) (ty := .double) (by decide)
    have FminLat_21 : Fld Z h16 b16 "com/example/gridshift/gridshift/Space" "minLat" "D" (.double 0) := D16 (Or.inr (hw _ (List.mem_of_getElem? (i := 36) rfl))) (ty := .double) (by decide)
    have FmaxLon_22 : Fld Z h16 b16 "com/example/gridshift/gridshift/Space" "maxLon" "D" (.double 0) := D16 (Or.inr (hw _ (List.mem_of_getElem? (i := 38) rfl))) (ty := .double) (by decide)
    have FmaxLat_23 : Fld Z h16 b16 "com/example/gridshift/gridshift/Space" "maxLat" "D" (.double 0) := D16 (Or.inr (hw _ (List.mem_of_getElem? (i := 40) rfl))) (ty := .double) (by decide)
    refine Go.on st16 ?_
    show Go p.tables e below s _ _ _ (T16.setTop (mkF m 106 #[.val (.int p1), .val (.int p2), .val (.int p3), .val (.int p4), .val (.int p5), .val (.int p6), .val (.long (own_minL (p1.toInt64) (p2.toInt64))), .second, .val (.long (own_hi p1.toInt64 p2.toInt64)), .second, .val (.long (own_minL (p3.toInt64) (p4.toInt64))), .second, .val (.long (own_hi p3.toInt64 p4.toInt64)), .second, .val (.long (p5.toInt64)), .second, .val (.long (p6.toInt64)), .second, .val (.int (0 : Int32)), .unset, .unset] [(.ref b16)]))
    refine Go.on (fun t k => XS.dup X16.here hx rfl (hb hby at_106) rfl rfl k) ?_
    show Go p.tables e below s _ _ _ (T16.setTop (mkF m 107 #[.val (.int p1), .val (.int p2), .val (.int p3), .val (.int p4), .val (.int p5), .val (.int p6), .val (.long (own_minL (p1.toInt64) (p2.toInt64))), .second, .val (.long (own_hi p1.toInt64 p2.toInt64)), .second, .val (.long (own_minL (p3.toInt64) (p4.toInt64))), .second, .val (.long (own_hi p3.toInt64 p4.toInt64)), .second, .val (.long (p5.toInt64)), .second, .val (.long (p6.toInt64)), .second, .val (.int (0 : Int32)), .unset, .unset] [(.ref b16), (.ref b16)]))
    refine Go.on (fun t k => XS.lload X16.here hx rfl (hb hby at_107) rfl k) ?_
    show Go p.tables e below s _ _ _ (T16.setTop (mkF m 109 #[.val (.int p1), .val (.int p2), .val (.int p3), .val (.int p4), .val (.int p5), .val (.int p6), .val (.long (own_minL (p1.toInt64) (p2.toInt64))), .second, .val (.long (own_hi p1.toInt64 p2.toInt64)), .second, .val (.long (own_minL (p3.toInt64) (p4.toInt64))), .second, .val (.long (own_hi p3.toInt64 p4.toInt64)), .second, .val (.long (p5.toInt64)), .second, .val (.long (p6.toInt64)), .second, .val (.int (0 : Int32)), .unset, .unset] [(.long (own_minL (p1.toInt64) (p2.toInt64))), (.ref b16), (.ref b16)]))
    refine Go.on (fun t k => XS.l2dS X16.here hx rfl (hb hby at_109) rfl rfl k) ?_
    show Go p.tables e below s _ _ _ (T16.setTop (mkF m 110 #[.val (.int p1), .val (.int p2), .val (.int p3), .val (.int p4), .val (.int p5), .val (.int p6), .val (.long (own_minL (p1.toInt64) (p2.toInt64))), .second, .val (.long (own_hi p1.toInt64 p2.toInt64)), .second, .val (.long (own_minL (p3.toInt64) (p4.toInt64))), .second, .val (.long (own_hi p3.toInt64 p4.toInt64)), .second, .val (.long (p5.toInt64)), .second, .val (.long (p6.toInt64)), .second, .val (.int (0 : Int32)), .unset, .unset] [(.double (FP.l2d (own_minL (p1.toInt64) (p2.toInt64)))), (.ref b16), (.ref b16)]))
    refine Go.on (fun t k => XS.lload X16.here hx rfl (hb hby at_110) rfl k) ?_
    show Go p.tables e below s _ _ _ (T16.setTop (mkF m 112 #[.val (.int p1), .val (.int p2), .val (.int p3), .val (.int p4), .val (.int p5), .val (.int p6), .val (.long (own_minL (p1.toInt64) (p2.toInt64))), .second, .val (.long (own_hi p1.toInt64 p2.toInt64)), .second, .val (.long (own_minL (p3.toInt64) (p4.toInt64))), .second, .val (.long (own_hi p3.toInt64 p4.toInt64)), .second, .val (.long (p5.toInt64)), .second, .val (.long (p6.toInt64)), .second, .val (.int (0 : Int32)), .unset, .unset] [(.long (own_minL (p3.toInt64) (p4.toInt64))), (.double (FP.l2d (own_minL (p1.toInt64) (p2.toInt64)))), (.ref b16), (.ref b16)]))
    refine Go.on (fun t k => XS.l2dS X16.here hx rfl (hb hby at_112) rfl rfl k) ?_
    show Go p.tables e below s _ _ _ (T16.setTop (mkF m 113 #[.val (.int p1), .val (.int p2), .val (.int p3), .val (.int p4), .val (.int p5), .val (.int p6), .val (.long (own_minL (p1.toInt64) (p2.toInt64))), .second, .val (.long (own_hi p1.toInt64 p2.toInt64)), .second, .val (.long (own_minL (p3.toInt64) (p4.toInt64))), .second, .val (.long (own_hi p3.toInt64 p4.toInt64)), .second, .val (.long (p5.toInt64)), .second, .val (.long (p6.toInt64)), .second, .val (.int (0 : Int32)), .unset, .unset] [(.double (FP.l2d (own_minL (p3.toInt64) (p4.toInt64)))), (.double (FP.l2d (own_minL (p1.toInt64) (p2.toInt64)))), (.ref b16), (.ref b16)]))
    refine Go.on (fun t k => XS.lload X16.here hx rfl (hb hby at_113) rfl k) ?_
    show Go p.tables e below s _ _ _ (T16.setTop (mkF m 115 #[.val (.int p1), .val (.int p2), .val (.int p3), .val (.int p4), .val (.int p5), .val (.int p6), .val (.long (own_minL (p1.toInt64) (p2.toInt64))), .second, .val (.long (own_hi p1.toInt64 p2.toInt64)), .second, .val (.long (own_minL (p3.toInt64) (p4.toInt64))), .second, .val (.long (own_hi p3.toInt64 p4.toInt64)), .second, .val (.long (p5.toInt64)), .second, .val (.long (p6.toInt64)), .second, .val (.int (0 : Int32)), .unset, .unset] [(.long (own_hi p1.toInt64 p2.toInt64)), (.double (FP.l2d (own_minL (p3.toInt64) (p4.toInt64)))), (.double (FP.l2d (own_minL (p1.toInt64) (p2.toInt64)))), (.ref b16), (.ref b16)]))
    refine Go.on (fun t k => XS.l2dS X16.here hx rfl (hb hby at_115) rfl rfl k) ?_
    show Go p.tables e below s _ _ _ (T16.setTop (mkF m 116 #[.val (.int p1), .val (.int p2), .val (.int p3), .val (.int p4), .val (.int p5), .val (.int p6), .val (.long (own_minL (p1.toInt64) (p2.toInt64))), .second, .val (.long (own_hi p1.toInt64 p2.toInt64)), .second, .val (.long (own_minL (p3.toInt64) (p4.toInt64))), .second, .val (.long (own_hi p3.toInt64 p4.toInt64)), .second, .val (.long (p5.toInt64)), .second, .val (.long (p6.toInt64)), .second, .val (.int (0 : Int32)), .unset, .unset] [(.double (FP.l2d (own_hi p1.toInt64 p2.toInt64))), (.double (FP.l2d (own_minL (p3.toInt64) (p4.toInt64)))), (.double (FP.l2d (own_minL (p1.toInt64) (p2.toInt64)))), (.ref b16), (.ref b16)]))
    refine Go.on (fun t k => XS.lload X16.here hx rfl (hb hby at_116) rfl k) ?_
    show Go p.tables e below s _ _ _ (T16.setTop (mkF m 118 #[.val (.int p1), .val (.int p2), .val (.int p3), .val (.int p4), .val (.int p5), .val (.int p6), .val (.long (own_minL (p1.toInt64) (p2.toInt64))), .second, .val (.long (own_hi p1.toInt64 p2.toInt64)), .second, .val (.long (own_minL (p3.toInt64) (p4.toInt64))), .second, .val (.long (own_hi p3.toInt64 p4.toInt64)), .second, .val (.long (p5.toInt64)), .second, .val (.long (p6.toInt64)), .second, .val (.int (0 : Int32)), .unset, .unset] [(.long (own_hi p3.toInt64 p4.toInt64)), (.double (FP.l2d (own_hi p1.toInt64 p2.toInt64))), (.double (FP.l2d (own_minL (p3.toInt64) (p4.toInt64)))), (.double (FP.l2d (own_minL (p1.toInt64) (p2.toInt64)))), (.ref b16), (.ref b16)]))
    refine Go.on (fun t k => XS.l2dS X16.here hx rfl (hb hby at_118) rfl rfl k) ?_
    show Go p.tables e below s _ _ _ (T16.setTop (mkF m 119 #[.val (.int p1), .val (.int p2), .val (.int p3), .val (.int p4), .val (.int p5), .val (.int p6), .val (.long (own_minL (p1.toInt64) (p2.toInt64))), .second, .val (.long (own_hi p1.toInt64 p2.toInt64)), .second, .val (.long (own_minL (p3.toInt64) (p4.toInt64))), .second, .val (.long (own_hi p3.toInt64 p4.toInt64)), .second, .val (.long (p5.toInt64)), .second, .val (.long (p6.toInt64)), .second, .val (.int (0 : Int32)), .unset, .unset] [(.double (FP.l2d (own_hi p3.toInt64 p4.toInt64))), (.double (FP.l2d (own_hi p1.toInt64 p2.toInt64))), (.double (FP.l2d (own_minL (p3.toInt64) (p4.toInt64)))), (.double (FP.l2d (own_minL (p1.toInt64) (p2.toInt64)))), (.ref b16), (.ref b16)]))
    obtain ⟨_, _, ⟨T24, L24, k24, n24⟩, -, X24, ⟨Lc24, hQ24, l24, y24, z24⟩, st24⟩ := X16.specialBack hx (y := (⟨"com/example/gridshift/gridshift/Space", "<init>", "(DDDD)V"⟩ : MethodName)) rfl hown (mvT hZ (hw _ (List.mem_of_getElem? (i := 14) rfl))) (mvT hZ (hw _ (List.mem_of_getElem? (i := 15) rfl))) (mvT hZ (hw _ (List.mem_of_getElem? (i := 16) rfl))) (by decide) (backOf (W := 1) (rm4 l Z a0 hw [] b16 (FP.l2d (own_minL (p1.toInt64) (p2.toInt64))) (FP.l2d (own_minL (p3.toInt64) (p4.toInt64))) (FP.l2d (own_hi p1.toInt64 p2.toInt64)) (FP.l2d (own_hi p3.toInt64 p4.toInt64)) (.double 0) (.double 0) (.double 0) (.double 0) (own_minL p1.toInt64 p2.toInt64) (own_minL p3.toInt64 p4.toInt64) (own_hi p1.toInt64 p2.toInt64) (own_hi p3.toInt64 p4.toInt64) h16 n0 Zp19 A16 ge17 FminLon_20 FminLat_21 FmaxLon_22 FmaxLat_23 rfl rfl rfl rfl (own_lo53 p1 p2) (own_lo53 p3 p4) (own_hi53 p1 p2) (own_hi53 p3 p4) (own_lh p1 p2).2.1 (own_lh p3 p4).2.1) hZ (hw _ (List.mem_of_getElem? (i := 16) rfl)) (hw _ (List.mem_of_getElem? (i := 13) rfl)) (by decide) (by decide)) (g := (mkF m 119 #[.val (.int p1), .val (.int p2), .val (.int p3), .val (.int p4), .val (.int p5), .val (.int p6), .val (.long (own_minL (p1.toInt64) (p2.toInt64))), .second, .val (.long (own_hi p1.toInt64 p2.toInt64)), .second, .val (.long (own_minL (p3.toInt64) (p4.toInt64))), .second, .val (.long (own_hi p3.toInt64 p4.toInt64)), .second, .val (.long (p5.toInt64)), .second, .val (.long (p6.toInt64)), .second, .val (.int (0 : Int32)), .unset, .unset] [(.double (FP.l2d (own_hi p3.toInt64 p4.toInt64))), (.double (FP.l2d (own_hi p1.toInt64 p2.toInt64))), (.double (FP.l2d (own_minL (p3.toInt64) (p4.toInt64)))), (.double (FP.l2d (own_minL (p1.toInt64) (p2.toInt64)))), (.ref b16), (.ref b16)])) rfl (by rw [hml]; rfl) (Steps.refl _) (a := b16) (argsL := [(.double (FP.l2d (own_minL (p1.toInt64) (p2.toInt64)))), (.double (FP.l2d (own_minL (p3.toInt64) (p4.toInt64)))), (.double (FP.l2d (own_hi p1.toInt64 p2.toInt64))), (.double (FP.l2d (own_hi p3.toInt64 p4.toInt64)))]) (rest := [(.ref b16)]) (lenOf pd__40_DDDD_41_V rfl) rfl (by show 2 * 0 + _ ≤ _; exact Nat.le_of_eq rfl) (hb hby at_119) (fun _ _ => ⟨rfl, e16, (by decide : ((((((0 + 0) + 0) + 0) + 0) + 0) + 1) + 0 ≤ _), (by decide : ((((((0 + 0) + 0) + 0) + 0) + 0) + 4) + 0 ≤ _)⟩)
    dsimp only [Pt.U, Pt.locs, Pt.cells, Pt.slots] at X24 l24 y24 z24 st24 hQ24
    rw [l24, y24, z24] at X24
    obtain ⟨rfl, Nq24, Kq24, P24_0, P24_1, P24_2, P24_3⟩ := hQ24
    have A16_25 := A16.keep Kq24
    have Zp26 := Nat.le_trans Zp19 Kq24.1
    have Np27 := Fr.app Np14 Nq24
    refine Go.via st24 ?_
    show Go p.tables e below s _ _ _ (T24.setTop (mkF m 122 #[.val (.int p1), .val (.int p2), .val (.int p3), .val (.int p4), .val (.int p5), .val (.int p6), .val (.long (own_minL (p1.toInt64) (p2.toInt64))), .second, .val (.long (own_hi p1.toInt64 p2.toInt64)), .second, .val (.long (own_minL (p3.toInt64) (p4.toInt64))), .second, .val (.long (own_hi p3.toInt64 p4.toInt64)), .second, .val (.long (p5.toInt64)), .second, .val (.long (p6.toInt64)), .second, .val (.int (0 : Int32)), .unset, .unset] [(.ref b16)]))
    refine Go.on (fun t k => XS.astore X24.here hx rfl (hb hby at_122) rfl rfl (l' := #[.val (.int p1), .val (.int p2), .val (.int p3), .val (.int p4), .val (.int p5), .val (.int p6), .val (.long (own_minL (p1.toInt64) (p2.toInt64))), .second, .val (.long (own_hi p1.toInt64 p2.toInt64)), .second, .val (.long (own_minL (p3.toInt64) (p4.toInt64))), .second, .val (.long (own_hi p3.toInt64 p4.toInt64)), .second, .val (.long (p5.toInt64)), .second, .val (.long (p6.toInt64)), .second, .val (.int (0 : Int32)), .val (.ref b16), .unset]) rfl k) ?_
    show Go p.tables e below s _ _ _ (T24.setTop (mkF m 124 #[.val (.int p1), .val (.int p2), .val (.int p3), .val (.int p4), .val (.int p5), .val (.int p6), .val (.long (own_minL (p1.toInt64) (p2.toInt64))), .second, .val (.long (own_hi p1.toInt64 p2.toInt64)), .second, .val (.long (own_minL (p3.toInt64) (p4.toInt64))), .second, .val (.long (own_hi p3.toInt64 p4.toInt64)), .second, .val (.long (p5.toInt64)), .second, .val (.long (p6.toInt64)), .second, .val (.int (0 : Int32)), .val (.ref b16), .unset] []))
    refine Go.on (fun t k => XS.aload X24.here hx rfl (hb hby at_124) rfl rfl k) ?_
    show Go p.tables e below s _ _ _ (T24.setTop (mkF m 126 #[.val (.int p1), .val (.int p2), .val (.int p3), .val (.int p4), .val (.int p5), .val (.int p6), .val (.long (own_minL (p1.toInt64) (p2.toInt64))), .second, .val (.long (own_hi p1.toInt64 p2.toInt64)), .second, .val (.long (own_minL (p3.toInt64) (p4.toInt64))), .second, .val (.long (own_hi p3.toInt64 p4.toInt64)), .second, .val (.long (p5.toInt64)), .second, .val (.long (p6.toInt64)), .second, .val (.int (0 : Int32)), .val (.ref b16), .unset] [(.ref b16)]))
    refine Go.on (fun t k => XS.iload X24.here hx rfl (hb hby at_126) rfl k) ?_
    show Go p.tables e below s _ _ _ (T24.setTop (mkF m 128 #[.val (.int p1), .val (.int p2), .val (.int p3), .val (.int p4), .val (.int p5), .val (.int p6), .val (.long (own_minL (p1.toInt64) (p2.toInt64))), .second, .val (.long (own_hi p1.toInt64 p2.toInt64)), .second, .val (.long (own_minL (p3.toInt64) (p4.toInt64))), .second, .val (.long (own_hi p3.toInt64 p4.toInt64)), .second, .val (.long (p5.toInt64)), .second, .val (.long (p6.toInt64)), .second, .val (.int (0 : Int32)), .val (.ref b16), .unset] [(.int p5), (.ref b16)]))
    refine Go.on (fun t k => XS.i2dS X24.here hx rfl (hb hby at_128) rfl rfl k) ?_
    show Go p.tables e below s _ _ _ (T24.setTop (mkF m 129 #[.val (.int p1), .val (.int p2), .val (.int p3), .val (.int p4), .val (.int p5), .val (.int p6), .val (.long (own_minL (p1.toInt64) (p2.toInt64))), .second, .val (.long (own_hi p1.toInt64 p2.toInt64)), .second, .val (.long (own_minL (p3.toInt64) (p4.toInt64))), .second, .val (.long (own_hi p3.toInt64 p4.toInt64)), .second, .val (.long (p5.toInt64)), .second, .val (.long (p6.toInt64)), .second, .val (.int (0 : Int32)), .val (.ref b16), .unset] [(.double (FP.i2d p5)), (.ref b16)]))
    refine Go.on (fun t k => XS.iload X24.here hx rfl (hb hby at_129) rfl k) ?_
    show Go p.tables e below s _ _ _ (T24.setTop (mkF m 131 #[.val (.int p1), .val (.int p2), .val (.int p3), .val (.int p4), .val (.int p5), .val (.int p6), .val (.long (own_minL (p1.toInt64) (p2.toInt64))), .second, .val (.long (own_hi p1.toInt64 p2.toInt64)), .second, .val (.long (own_minL (p3.toInt64) (p4.toInt64))), .second, .val (.long (own_hi p3.toInt64 p4.toInt64)), .second, .val (.long (p5.toInt64)), .second, .val (.long (p6.toInt64)), .second, .val (.int (0 : Int32)), .val (.ref b16), .unset] [(.int p6), (.double (FP.i2d p5)), (.ref b16)]))
    refine Go.on (fun t k => XS.i2dS X24.here hx rfl (hb hby at_131) rfl rfl k) ?_
    show Go p.tables e below s _ _ _ (T24.setTop (mkF m 132 #[.val (.int p1), .val (.int p2), .val (.int p3), .val (.int p4), .val (.int p5), .val (.int p6), .val (.long (own_minL (p1.toInt64) (p2.toInt64))), .second, .val (.long (own_hi p1.toInt64 p2.toInt64)), .second, .val (.long (own_minL (p3.toInt64) (p4.toInt64))), .second, .val (.long (own_hi p3.toInt64 p4.toInt64)), .second, .val (.long (p5.toInt64)), .second, .val (.long (p6.toInt64)), .second, .val (.int (0 : Int32)), .val (.ref b16), .unset] [(.double (FP.i2d p6)), (.double (FP.i2d p5)), (.ref b16)]))
    obtain ⟨cq28, kq28, q28a, q28b, q28c⟩ := isOf hZ rfl A16_25
    obtain ⟨_, _, ⟨T28, L28, k28, n28⟩, -, X28, ⟨Lc28, hQ28, l28, y28, z28⟩, st28⟩ := X24.virtualBack hx (y := (⟨"com/example/gridshift/gridshift/Space", "contains", "(DD)Z"⟩ : MethodName)) (z := (⟨"com/example/gridshift/gridshift/Space", "contains", "(DD)Z"⟩ : MethodName)) hown (mvT hZ (hw _ (List.mem_of_getElem? (i := 41) rfl))) (mvT hZ (hw _ (List.mem_of_getElem? (i := 42) rfl))) (notFace_of_selects (args := #[]) (mvT hZ (hw _ (List.mem_of_getElem? (i := 44) rfl)))) (mvT hZ (hw _ (List.mem_of_getElem? (i := 44) rfl))) (mvT hZ (hw _ (List.mem_of_getElem? (i := 43) rfl))) (by decide) (backOf (W := 0) (rm9 l Z a0 hw [] b16 (FP.i2d p5) (FP.i2d p6) (own_minL p1.toInt64 p2.toInt64) (own_minL p3.toInt64 p4.toInt64) (own_hi p1.toInt64 p2.toInt64) (own_hi p3.toInt64 p4.toInt64) p5.toInt64 p6.toInt64 T24.heap n0 Zp26 P24_0 P24_1 P24_2 P24_3 (own_lo53 p1 p2) (own_lo53 p3 p4) (own_hi53 p1 p2) (own_hi53 p3 p4) (own_53 p5) (own_53 p6) (i2d_w p5) (i2d_w p6)) hZ (hw _ (List.mem_of_getElem? (i := 45) rfl)) (hw _ (List.mem_of_getElem? (i := 13) rfl)) (by decide) (by decide)) q28a q28c (g := (mkF m 132 #[.val (.int p1), .val (.int p2), .val (.int p3), .val (.int p4), .val (.int p5), .val (.int p6), .val (.long (own_minL (p1.toInt64) (p2.toInt64))), .second, .val (.long (own_hi p1.toInt64 p2.toInt64)), .second, .val (.long (own_minL (p3.toInt64) (p4.toInt64))), .second, .val (.long (own_hi p3.toInt64 p4.toInt64)), .second, .val (.long (p5.toInt64)), .second, .val (.long (p6.toInt64)), .second, .val (.int (0 : Int32)), .val (.ref b16), .unset] [(.double (FP.i2d p6)), (.double (FP.i2d p5)), (.ref b16)])) rfl (by rw [hml]; rfl) (Steps.refl _) (argsL := [(.double (FP.i2d p5)), (.double (FP.i2d p6))]) (rest := []) (lenOf pd__40_DD_41_Z rfl) rfl (by show 2 * 0 + _ ≤ _; exact Nat.le_of_eq rfl) (hb hby at_132) (fun _ _ => ⟨rfl, rfl, (by decide : (((((((0 + 0) + 0) + 0) + 0) + 0) + 1) + 0) + 0 ≤ _), (by decide : (((((((0 + 0) + 0) + 0) + 0) + 0) + 4) + 0) + 0 ≤ _)⟩)
    dsimp only [Pt.U, Pt.locs, Pt.cells, Pt.slots] at X28 l28 y28 z28 st28 hQ28
    rw [l28, y28, z28] at X28
    obtain ⟨rfl, Nq28, e28⟩ := hQ28
    have Np29 := Fr.app Np27 Nq28
    refine Go.via st28 ?_
    show Go p.tables e below s _ _ _ (T28.setTop (mkF m 135 #[.val (.int p1), .val (.int p2), .val (.int p3), .val (.int p4), .val (.int p5), .val (.int p6), .val (.long (own_minL (p1.toInt64) (p2.toInt64))), .second, .val (.long (own_hi p1.toInt64 p2.toInt64)), .second, .val (.long (own_minL (p3.toInt64) (p4.toInt64))), .second, .val (.long (own_hi p3.toInt64 p4.toInt64)), .second, .val (.long (p5.toInt64)), .second, .val (.long (p6.toInt64)), .second, .val (.int (0 : Int32)), .val (.ref b16), .unset] [(.int (own_b (¬ (0 : Int32) < lcmpW (own_minL p1.toInt64 p2.toInt64) p5.toInt64 ∧ ¬ (0 : Int32) < lcmpW p5.toInt64 (own_hi p1.toInt64 p2.toInt64) ∧ ¬ (0 : Int32) < lcmpW (own_minL p3.toInt64 p4.toInt64) p6.toInt64 ∧ ¬ (0 : Int32) < lcmpW p6.toInt64 (own_hi p3.toInt64 p4.toInt64))))]))
    refine Go.on (fun t k => XS.istore X28.here hx rfl (hb hby at_135) rfl (l' := #[.val (.int p1), .val (.int p2), .val (.int p3), .val (.int p4), .val (.int p5), .val (.int p6), .val (.long (own_minL (p1.toInt64) (p2.toInt64))), .second, .val (.long (own_hi p1.toInt64 p2.toInt64)), .second, .val (.long (own_minL (p3.toInt64) (p4.toInt64))), .second, .val (.long (own_hi p3.toInt64 p4.toInt64)), .second, .val (.long (p5.toInt64)), .second, .val (.long (p6.toInt64)), .second, .val (.int (0 : Int32)), .val (.ref b16), .val (.int (own_b (¬ (0 : Int32) < lcmpW (own_minL p1.toInt64 p2.toInt64) p5.toInt64 ∧ ¬ (0 : Int32) < lcmpW p5.toInt64 (own_hi p1.toInt64 p2.toInt64) ∧ ¬ (0 : Int32) < lcmpW (own_minL p3.toInt64 p4.toInt64) p6.toInt64 ∧ ¬ (0 : Int32) < lcmpW p6.toInt64 (own_hi p3.toInt64 p4.toInt64))))]) rfl k) ?_
    show Go p.tables e below s _ _ _ (T28.setTop (mkF m 137 #[.val (.int p1), .val (.int p2), .val (.int p3), .val (.int p4), .val (.int p5), .val (.int p6), .val (.long (own_minL (p1.toInt64) (p2.toInt64))), .second, .val (.long (own_hi p1.toInt64 p2.toInt64)), .second, .val (.long (own_minL (p3.toInt64) (p4.toInt64))), .second, .val (.long (own_hi p3.toInt64 p4.toInt64)), .second, .val (.long (p5.toInt64)), .second, .val (.long (p6.toInt64)), .second, .val (.int (0 : Int32)), .val (.ref b16), .val (.int (own_b (¬ (0 : Int32) < lcmpW (own_minL p1.toInt64 p2.toInt64) p5.toInt64 ∧ ¬ (0 : Int32) < lcmpW p5.toInt64 (own_hi p1.toInt64 p2.toInt64) ∧ ¬ (0 : Int32) < lcmpW (own_minL p3.toInt64 p4.toInt64) p6.toInt64 ∧ ¬ (0 : Int32) < lcmpW p6.toInt64 (own_hi p3.toInt64 p4.toInt64))))] []))
    refine Go.on (fun t k => XS.iload X28.here hx rfl (hb hby at_137) rfl k) ?_
    show Go p.tables e below s _ _ _ (T28.setTop (mkF m 139 #[.val (.int p1), .val (.int p2), .val (.int p3), .val (.int p4), .val (.int p5), .val (.int p6), .val (.long (own_minL (p1.toInt64) (p2.toInt64))), .second, .val (.long (own_hi p1.toInt64 p2.toInt64)), .second, .val (.long (own_minL (p3.toInt64) (p4.toInt64))), .second, .val (.long (own_hi p3.toInt64 p4.toInt64)), .second, .val (.long (p5.toInt64)), .second, .val (.long (p6.toInt64)), .second, .val (.int (0 : Int32)), .val (.ref b16), .val (.int (own_b (¬ (0 : Int32) < lcmpW (own_minL p1.toInt64 p2.toInt64) p5.toInt64 ∧ ¬ (0 : Int32) < lcmpW p5.toInt64 (own_hi p1.toInt64 p2.toInt64) ∧ ¬ (0 : Int32) < lcmpW (own_minL p3.toInt64 p4.toInt64) p6.toInt64 ∧ ¬ (0 : Int32) < lcmpW p6.toInt64 (own_hi p3.toInt64 p4.toInt64))))] [(.int (own_b (¬ (0 : Int32) < lcmpW (own_minL p1.toInt64 p2.toInt64) p5.toInt64 ∧ ¬ (0 : Int32) < lcmpW p5.toInt64 (own_hi p1.toInt64 p2.toInt64) ∧ ¬ (0 : Int32) < lcmpW (own_minL p3.toInt64 p4.toInt64) p6.toInt64 ∧ ¬ (0 : Int32) < lcmpW p6.toInt64 (own_hi p3.toInt64 p4.toInt64))))]))
    refine Go.on (fun t k => XS.iload X28.here hx rfl (hb hby at_139) rfl k) ?_
    show Go p.tables e below s _ _ _ (T28.setTop (mkF m 141 #[.val (.int p1), .val (.int p2), .val (.int p3), .val (.int p4), .val (.int p5), .val (.int p6), .val (.long (own_minL (p1.toInt64) (p2.toInt64))), .second, .val (.long (own_hi p1.toInt64 p2.toInt64)), .second, .val (.long (own_minL (p3.toInt64) (p4.toInt64))), .second, .val (.long (own_hi p3.toInt64 p4.toInt64)), .second, .val (.long (p5.toInt64)), .second, .val (.long (p6.toInt64)), .second, .val (.int (0 : Int32)), .val (.ref b16), .val (.int (own_b (¬ (0 : Int32) < lcmpW (own_minL p1.toInt64 p2.toInt64) p5.toInt64 ∧ ¬ (0 : Int32) < lcmpW p5.toInt64 (own_hi p1.toInt64 p2.toInt64) ∧ ¬ (0 : Int32) < lcmpW (own_minL p3.toInt64 p4.toInt64) p6.toInt64 ∧ ¬ (0 : Int32) < lcmpW p6.toInt64 (own_hi p3.toInt64 p4.toInt64))))] [(.int (0 : Int32)), (.int (own_b (¬ (0 : Int32) < lcmpW (own_minL p1.toInt64 p2.toInt64) p5.toInt64 ∧ ¬ (0 : Int32) < lcmpW p5.toInt64 (own_hi p1.toInt64 p2.toInt64) ∧ ¬ (0 : Int32) < lcmpW (own_minL p3.toInt64 p4.toInt64) p6.toInt64 ∧ ¬ (0 : Int32) < lcmpW p6.toInt64 (own_hi p3.toInt64 p4.toInt64))))]))
    refine Go.on (fun t k => XS.icmpNo X28.here hx rfl (hb hby at_141) rfl (teq (own_bf fun q => own_b0 hc83_15 ⟨(own_vv _ _).mpr q.1, q.2.1⟩)).2 k) ?_
    show Go p.tables e below s _ _ _ (T28.setTop (mkF m 144 #[.val (.int p1), .val (.int p2), .val (.int p3), .val (.int p4), .val (.int p5), .val (.int p6), .val (.long (own_minL (p1.toInt64) (p2.toInt64))), .second, .val (.long (own_hi p1.toInt64 p2.toInt64)), .second, .val (.long (own_minL (p3.toInt64) (p4.toInt64))), .second, .val (.long (own_hi p3.toInt64 p4.toInt64)), .second, .val (.long (p5.toInt64)), .second, .val (.long (p6.toInt64)), .second, .val (.int (0 : Int32)), .val (.ref b16), .val (.int (own_b (¬ (0 : Int32) < lcmpW (own_minL p1.toInt64 p2.toInt64) p5.toInt64 ∧ ¬ (0 : Int32) < lcmpW p5.toInt64 (own_hi p1.toInt64 p2.toInt64) ∧ ¬ (0 : Int32) < lcmpW (own_minL p3.toInt64 p4.toInt64) p6.toInt64 ∧ ¬ (0 : Int32) < lcmpW p6.toInt64 (own_hi p3.toInt64 p4.toInt64))))] []))
    refine Go.on (fun t k => XS.iconst X28.here hx rfl (hb hby at_144) k) ?_
    show Go p.tables e below s _ _ _ (T28.setTop (mkF m 145 #[.val (.int p1), .val (.int p2), .val (.int p3), .val (.int p4), .val (.int p5), .val (.int p6), .val (.long (own_minL (p1.toInt64) (p2.toInt64))), .second, .val (.long (own_hi p1.toInt64 p2.toInt64)), .second, .val (.long (own_minL (p3.toInt64) (p4.toInt64))), .second, .val (.long (own_hi p3.toInt64 p4.toInt64)), .second, .val (.long (p5.toInt64)), .second, .val (.long (p6.toInt64)), .second, .val (.int (0 : Int32)), .val (.ref b16), .val (.int (own_b (¬ (0 : Int32) < lcmpW (own_minL p1.toInt64 p2.toInt64) p5.toInt64 ∧ ¬ (0 : Int32) < lcmpW p5.toInt64 (own_hi p1.toInt64 p2.toInt64) ∧ ¬ (0 : Int32) < lcmpW (own_minL p3.toInt64 p4.toInt64) p6.toInt64 ∧ ¬ (0 : Int32) < lcmpW p6.toInt64 (own_hi p3.toInt64 p4.toInt64))))] [(.int (1 : Int32))]))
    refine Go.on (fun t k => XS.goto X28.here hx rfl (pc0 := 145) (pc' := 149) rfl (hb hby at_145) (by decide) (by decide) k) ?_
    show Go p.tables e below s _ _ _ (T28.setTop (mkF m 149 #[.val (.int p1), .val (.int p2), .val (.int p3), .val (.int p4), .val (.int p5), .val (.int p6), .val (.long (own_minL (p1.toInt64) (p2.toInt64))), .second, .val (.long (own_hi p1.toInt64 p2.toInt64)), .second, .val (.long (own_minL (p3.toInt64) (p4.toInt64))), .second, .val (.long (own_hi p3.toInt64 p4.toInt64)), .second, .val (.long (p5.toInt64)), .second, .val (.long (p6.toInt64)), .second, .val (.int (0 : Int32)), .val (.ref b16), .val (.int (own_b (¬ (0 : Int32) < lcmpW (own_minL p1.toInt64 p2.toInt64) p5.toInt64 ∧ ¬ (0 : Int32) < lcmpW p5.toInt64 (own_hi p1.toInt64 p2.toInt64) ∧ ¬ (0 : Int32) < lcmpW (own_minL p3.toInt64 p4.toInt64) p6.toInt64 ∧ ¬ (0 : Int32) < lcmpW p6.toInt64 (own_hi p3.toInt64 p4.toInt64))))] [(.int (1 : Int32))]))
    refine Go.retN X28 hx hlk (t := .boolean) Bd.returns (by simp) (hb hby at_149) (by decide) (by decide) e28 ?_
    exact ⟨rfl, Np29⟩
  · refine Go.on (fun t k => XS.ifNo X13.here hx rfl (hb hby at_83) rfl ((if0 _ _).trans (feq hc83_15).1) k) ?_
    show Go p.tables e below s _ _ _ (T13.setTop (mkF m 86 #[.val (.int p1), .val (.int p2), .val (.int p3), .val (.int p4), .val (.int p5), .val (.int p6), .val (.long (own_minL (p1.toInt64) (p2.toInt64))), .second, .val (.long (own_hi p1.toInt64 p2.toInt64)), .second, .val (.long (own_minL (p3.toInt64) (p4.toInt64))), .second, .val (.long (own_hi p3.toInt64 p4.toInt64)), .second, .val (.long (p5.toInt64)), .second, .val (.long (p6.toInt64)), .second, .unset, .unset, .unset] []))
    refine Go.on (fun t k => XS.lload X13.here hx rfl (hb hby at_86) rfl k) ?_
    show Go p.tables e below s _ _ _ (T13.setTop (mkF m 88 #[.val (.int p1), .val (.int p2), .val (.int p3), .val (.int p4), .val (.int p5), .val (.int p6), .val (.long (own_minL (p1.toInt64) (p2.toInt64))), .second, .val (.long (own_hi p1.toInt64 p2.toInt64)), .second, .val (.long (own_minL (p3.toInt64) (p4.toInt64))), .second, .val (.long (own_hi p3.toInt64 p4.toInt64)), .second, .val (.long (p5.toInt64)), .second, .val (.long (p6.toInt64)), .second, .unset, .unset, .unset] [(.long (own_minL (p3.toInt64) (p4.toInt64)))]))
    refine Go.on (fun t k => XS.lload X13.here hx rfl (hb hby at_88) rfl k) ?_
    show Go p.tables e below s _ _ _ (T13.setTop (mkF m 90 #[.val (.int p1), .val (.int p2), .val (.int p3), .val (.int p4), .val (.int p5), .val (.int p6), .val (.long (own_minL (p1.toInt64) (p2.toInt64))), .second, .val (.long (own_hi p1.toInt64 p2.toInt64)), .second, .val (.long (own_minL (p3.toInt64) (p4.toInt64))), .second, .val (.long (own_hi p3.toInt64 p4.toInt64)), .second, .val (.long (p5.toInt64)), .second, .val (.long (p6.toInt64)), .second, .unset, .unset, .unset] [(.long (own_hi p3.toInt64 p4.toInt64)), (.long (own_minL (p3.toInt64) (p4.toInt64)))]))
    refine Go.on (fun t k => XS.lload X13.here hx rfl (hb hby at_90) rfl k) ?_
    show Go p.tables e below s _ _ _ (T13.setTop (mkF m 92 #[.val (.int p1), .val (.int p2), .val (.int p3), .val (.int p4), .val (.int p5), .val (.int p6), .val (.long (own_minL (p1.toInt64) (p2.toInt64))), .second, .val (.long (own_hi p1.toInt64 p2.toInt64)), .second, .val (.long (own_minL (p3.toInt64) (p4.toInt64))), .second, .val (.long (own_hi p3.toInt64 p4.toInt64)), .second, .val (.long (p5.toInt64)), .second, .val (.long (p6.toInt64)), .second, .unset, .unset, .unset] [(.long (p6.toInt64)), (.long (own_hi p3.toInt64 p4.toInt64)), (.long (own_minL (p3.toInt64) (p4.toInt64)))]))
    obtain ⟨_, _, ⟨T30, L30, k30, n30⟩, -, X30, ⟨Lc30, hQ30, l30, y30, z30⟩, st30⟩ := Jvm.LawKit.callS X13 hx (y := (⟨"com/example/gridshift/gridshift/SpaceContainsPinLaw", "within", "(JJJ)Z"⟩ : MethodName)) hown (mvT hZ (hw _ (List.mem_of_getElem? (i := 7) rfl))) (mvT hZ (hw _ (List.mem_of_getElem? (i := 8) rfl))) (mvT hZ (hw _ (List.mem_of_getElem? (i := 9) rfl))) (mvT hZ (hw _ (List.mem_of_getElem? (i := 10) rfl))) (by decide) (backOf (W := 0) (rm3 l Z a0 hw [] (own_minL (p3.toInt64) (p4.toInt64)) (own_hi p3.toInt64 p4.toInt64) (p6.toInt64) h0 n0 Z0 ) hZ (hw _ (List.mem_of_getElem? (i := 10) rfl)) (hw _ (List.mem_of_getElem? (i := 9) rfl)) (by decide) (by decide)) (g := (mkF m 92 #[.val (.int p1), .val (.int p2), .val (.int p3), .val (.int p4), .val (.int p5), .val (.int p6), .val (.long (own_minL (p1.toInt64) (p2.toInt64))), .second, .val (.long (own_hi p1.toInt64 p2.toInt64)), .second, .val (.long (own_minL (p3.toInt64) (p4.toInt64))), .second, .val (.long (own_hi p3.toInt64 p4.toInt64)), .second, .val (.long (p5.toInt64)), .second, .val (.long (p6.toInt64)), .second, .unset, .unset, .unset] [(.long (p6.toInt64)), (.long (own_hi p3.toInt64 p4.toInt64)), (.long (own_minL (p3.toInt64) (p4.toInt64)))])) rfl (by rw [hml]; rfl) (argsL := [(.long (own_minL (p3.toInt64) (p4.toInt64))), (.long (own_hi p3.toInt64 p4.toInt64)), (.long (p6.toInt64))]) (rest := []) (lenOf pd__40_JJJ_41_Z rfl) rfl (by show 2 * 0 + _ ≤ _; exact Nat.le_of_eq rfl) (hb hby at_92) (fun _ _ => ⟨rfl, e13, (by decide : (((((0 + 0) + 0) + 0) + 0) + 0) + 0 ≤ _), (by decide : (((((0 + 0) + 0) + 0) + 0) + 0) + 0 ≤ _)⟩)
    dsimp only [Pt.U, Pt.locs, Pt.cells, Pt.slots] at X30 l30 y30 z30 st30 hQ30
    rw [l30, y30, z30] at X30
    obtain ⟨rfl, Nq30, e30⟩ := hQ30
    have Np31 := Fr.app Np14 Nq30
    refine Go.on st30 ?_
    show Go p.tables e below s _ _ _ (T30.setTop (mkF m 95 #[.val (.int p1), .val (.int p2), .val (.int p3), .val (.int p4), .val (.int p5), .val (.int p6), .val (.long (own_minL (p1.toInt64) (p2.toInt64))), .second, .val (.long (own_hi p1.toInt64 p2.toInt64)), .second, .val (.long (own_minL (p3.toInt64) (p4.toInt64))), .second, .val (.long (own_hi p3.toInt64 p4.toInt64)), .second, .val (.long (p5.toInt64)), .second, .val (.long (p6.toInt64)), .second, .unset, .unset, .unset] [(.int (own_b (¬ lcmpW (p6.toInt64) (own_minL (p3.toInt64) (p4.toInt64)) < (0 : Int32) ∧ ¬ (0 : Int32) < lcmpW (p6.toInt64) (own_hi p3.toInt64 p4.toInt64))))]))
    refine Go.on (fun t k => XS.istore X30.here hx rfl (hb hby at_95) rfl (l' := #[.val (.int p1), .val (.int p2), .val (.int p3), .val (.int p4), .val (.int p5), .val (.int p6), .val (.long (own_minL (p1.toInt64) (p2.toInt64))), .second, .val (.long (own_hi p1.toInt64 p2.toInt64)), .second, .val (.long (own_minL (p3.toInt64) (p4.toInt64))), .second, .val (.long (own_hi p3.toInt64 p4.toInt64)), .second, .val (.long (p5.toInt64)), .second, .val (.long (p6.toInt64)), .second, .val (.int (own_b (¬ lcmpW (p6.toInt64) (own_minL (p3.toInt64) (p4.toInt64)) < (0 : Int32) ∧ ¬ (0 : Int32) < lcmpW (p6.toInt64) (own_hi p3.toInt64 p4.toInt64)))), .unset, .unset]) rfl k) ?_
    show Go p.tables e below s _ _ _ (T30.setTop (mkF m 97 #[.val (.int p1), .val (.int p2), .val (.int p3), .val (.int p4), .val (.int p5), .val (.int p6), .val (.long (own_minL (p1.toInt64) (p2.toInt64))), .second, .val (.long (own_hi p1.toInt64 p2.toInt64)), .second, .val (.long (own_minL (p3.toInt64) (p4.toInt64))), .second, .val (.long (own_hi p3.toInt64 p4.toInt64)), .second, .val (.long (p5.toInt64)), .second, .val (.long (p6.toInt64)), .second, .val (.int (own_b (¬ lcmpW (p6.toInt64) (own_minL (p3.toInt64) (p4.toInt64)) < (0 : Int32) ∧ ¬ (0 : Int32) < lcmpW (p6.toInt64) (own_hi p3.toInt64 p4.toInt64)))), .unset, .unset] []))
    refine Go.on (fun t k => XS.goto X30.here hx rfl (pc0 := 97) (pc' := 103) rfl (hb hby at_97) (by decide) (by decide) k) ?_
    show Go p.tables e below s _ _ _ (T30.setTop (mkF m 103 #[.val (.int p1), .val (.int p2), .val (.int p3), .val (.int p4), .val (.int p5), .val (.int p6), .val (.long (own_minL (p1.toInt64) (p2.toInt64))), .second, .val (.long (own_hi p1.toInt64 p2.toInt64)), .second, .val (.long (own_minL (p3.toInt64) (p4.toInt64))), .second, .val (.long (own_hi p3.toInt64 p4.toInt64)), .second, .val (.long (p5.toInt64)), .second, .val (.long (p6.toInt64)), .second, .val (.int (own_b (¬ lcmpW (p6.toInt64) (own_minL (p3.toInt64) (p4.toInt64)) < (0 : Int32) ∧ ¬ (0 : Int32) < lcmpW (p6.toInt64) (own_hi p3.toInt64 p4.toInt64)))), .unset, .unset] []))
    obtain ⟨T32, h32, X32, e32, E32, A32, D32, -, st32⟩ := newO X30 hx hZ hown (hw _ (List.mem_of_getElem? (i := 11) rfl)) (hw _ (List.mem_of_getElem? (i := 12) rfl)) (hw _ (List.mem_of_getElem? (i := 13) rfl)) e30 (g := (mkF m 103 #[.val (.int p1), .val (.int p2), .val (.int p3), .val (.int p4), .val (.int p5), .val (.int p6), .val (.long (own_minL (p1.toInt64) (p2.toInt64))), .second, .val (.long (own_hi p1.toInt64 p2.toInt64)), .second, .val (.long (own_minL (p3.toInt64) (p4.toInt64))), .second, .val (.long (own_hi p3.toInt64 p4.toInt64)), .second, .val (.long (p5.toInt64)), .second, .val (.long (p6.toInt64)), .second, .val (.int (own_b (¬ lcmpW (p6.toInt64) (own_minL (p3.toInt64) (p4.toInt64)) < (0 : Int32) ∧ ¬ (0 : Int32) < lcmpW (p6.toInt64) (own_hi p3.toInt64 p4.toInt64)))), .unset, .unset] [])) rfl (hb hby at_103) (by decide) (by decide)
    obtain ⟨b32, g32⟩ : ∃ z, z = h0.size := ⟨_, rfl⟩
    rw [← g32] at A32 D32 st32
    have ge33 : n0 ≤ b32 := Nat.le_trans Z0 (Nat.le_of_eq g32.symm)
    have Zp35 := Nat.le_trans Z0 E32.1
    have FminLon_36 : Fld Z h32 b32 "com/example/gridshift/gridshift/Space" "minLon" "D" (.double 0) := D32 (Or.inr (hw _ (List.mem_of_getElem? (i := 34) rfl))) (ty := .double) (by decide)
    have FminLat_37 : Fld Z h32 b32 "com/example/gridshift/gridshift/Space" "minLat" "D" (.double 0) := D32 (Or.inr (hw _ (List.mem_of_getElem? (i := 36) rfl))) (ty := .double) (by decide)
    have FmaxLon_38 : Fld Z h32 b32 "com/example/gridshift/gridshift/Space" "maxLon" "D" (.double 0) := D32 (Or.inr (hw _ (List.mem_of_getElem? (i := 38) rfl))) (ty := .double) (by decide)
    have FmaxLat_39 : Fld Z h32 b32 "com/example/gridshift/gridshift/Space" "maxLat" "D" (.double 0) := D32 (Or.inr (hw _ (List.mem_of_getElem? (i := 40) rfl))) (ty := .double) (by decide)
    refine Go.on st32 ?_
    show Go p.tables e below s _ _ _ (T32.setTop (mkF m 106 #[.val (.int p1), .val (.int p2), .val (.int p3), .val (.int p4), .val (.int p5), .val (.int p6), .val (.long (own_minL (p1.toInt64) (p2.toInt64))), .second, .val (.long (own_hi p1.toInt64 p2.toInt64)), .second, .val (.long (own_minL (p3.toInt64) (p4.toInt64))), .second, .val (.long (own_hi p3.toInt64 p4.toInt64)), .second, .val (.long (p5.toInt64)), .second, .val (.long (p6.toInt64)), .second, .val (.int (own_b (¬ lcmpW (p6.toInt64) (own_minL (p3.toInt64) (p4.toInt64)) < (0 : Int32) ∧ ¬ (0 : Int32) < lcmpW (p6.toInt64) (own_hi p3.toInt64 p4.toInt64)))), .unset, .unset] [(.ref b32)]))
    refine Go.on (fun t k => XS.dup X32.here hx rfl (hb hby at_106) rfl rfl k) ?_
    show Go p.tables e below s _ _ _ (T32.setTop (mkF m 107 #[.val (.int p1), .val (.int p2), .val (.int p3), .val (.int p4), .val (.int p5), .val (.int p6), .val (.long (own_minL (p1.toInt64) (p2.toInt64))), .second, .val (.long (own_hi p1.toInt64 p2.toInt64)), .second, .val (.long (own_minL (p3.toInt64) (p4.toInt64))), .second, .val (.long (own_hi p3.toInt64 p4.toInt64)), .second, .val (.long (p5.toInt64)), .second, .val (.long (p6.toInt64)), .second, .val (.int (own_b (¬ lcmpW (p6.toInt64) (own_minL (p3.toInt64) (p4.toInt64)) < (0 : Int32) ∧ ¬ (0 : Int32) < lcmpW (p6.toInt64) (own_hi p3.toInt64 p4.toInt64)))), .unset, .unset] [(.ref b32), (.ref b32)]))
    refine Go.on (fun t k => XS.lload X32.here hx rfl (hb hby at_107) rfl k) ?_
    show Go p.tables e below s _ _ _ (T32.setTop (mkF m 109 #[.val (.int p1), .val (.int p2), .val (.int p3), .val (.int p4), .val (.int p5), .val (.int p6), .val (.long (own_minL (p1.toInt64) (p2.toInt64))), .second, .val (.long (own_hi p1.toInt64 p2.toInt64)), .second, .val (.long (own_minL (p3.toInt64) (p4.toInt64))), .second, .val (.long (own_hi p3.toInt64 p4.toInt64)), .second, .val (.long (p5.toInt64)), .second, .val (.long (p6.toInt64)), .second, .val (.int (own_b (¬ lcmpW (p6.toInt64) (own_minL (p3.toInt64) (p4.toInt64)) < (0 : Int32) ∧ ¬ (0 : Int32) < lcmpW (p6.toInt64) (own_hi p3.toInt64 p4.toInt64)))), .unset, .unset] [(.long (own_minL (p1.toInt64) (p2.toInt64))), (.ref b32), (.ref b32)]))
    refine Go.on (fun t k => XS.l2dS X32.here hx rfl (hb hby at_109) rfl rfl k) ?_
    show Go p.tables e below s _ _ _ (T32.setTop (mkF m 110 #[.val (.int p1), .val (.int p2), .val (.int p3), .val (.int p4), .val (.int p5), .val (.int p6), .val (.long (own_minL (p1.toInt64) (p2.toInt64))), .second, .val (.long (own_hi p1.toInt64 p2.toInt64)), .second, .val (.long (own_minL (p3.toInt64) (p4.toInt64))), .second, .val (.long (own_hi p3.toInt64 p4.toInt64)), .second, .val (.long (p5.toInt64)), .second, .val (.long (p6.toInt64)), .second, .val (.int (own_b (¬ lcmpW (p6.toInt64) (own_minL (p3.toInt64) (p4.toInt64)) < (0 : Int32) ∧ ¬ (0 : Int32) < lcmpW (p6.toInt64) (own_hi p3.toInt64 p4.toInt64)))), .unset, .unset] [(.double (FP.l2d (own_minL (p1.toInt64) (p2.toInt64)))), (.ref b32), (.ref b32)]))
    refine Go.on (fun t k => XS.lload X32.here hx rfl (hb hby at_110) rfl k) ?_
    show Go p.tables e below s _ _ _ (T32.setTop (mkF m 112 #[.val (.int p1), .val (.int p2), .val (.int p3), .val (.int p4), .val (.int p5), .val (.int p6), .val (.long (own_minL (p1.toInt64) (p2.toInt64))), .second, .val (.long (own_hi p1.toInt64 p2.toInt64)), .second, .val (.long (own_minL (p3.toInt64) (p4.toInt64))), .second, .val (.long (own_hi p3.toInt64 p4.toInt64)), .second, .val (.long (p5.toInt64)), .second, .val (.long (p6.toInt64)), .second, .val (.int (own_b (¬ lcmpW (p6.toInt64) (own_minL (p3.toInt64) (p4.toInt64)) < (0 : Int32) ∧ ¬ (0 : Int32) < lcmpW (p6.toInt64) (own_hi p3.toInt64 p4.toInt64)))), .unset, .unset] [(.long (own_minL (p3.toInt64) (p4.toInt64))), (.double (FP.l2d (own_minL (p1.toInt64) (p2.toInt64)))), (.ref b32), (.ref b32)]))
    refine Go.on (fun t k => XS.l2dS X32.here hx rfl (hb hby at_112) rfl rfl k) ?_
    show Go p.tables e below s _ _ _ (T32.setTop (mkF m 113 #[.val (.int p1), .val (.int p2), .val (.int p3), .val (.int p4), .val (.int p5), .val (.int p6), .val (.long (own_minL (p1.toInt64) (p2.toInt64))), .second, .val (.long (own_hi p1.toInt64 p2.toInt64)), .second, .val (.long (own_minL (p3.toInt64) (p4.toInt64))), .second, .val (.long (own_hi p3.toInt64 p4.toInt64)), .second, .val (.long (p5.toInt64)), .second, .val (.long (p6.toInt64)), .second, .val (.int (own_b (¬ lcmpW (p6.toInt64) (own_minL (p3.toInt64) (p4.toInt64)) < (0 : Int32) ∧ ¬ (0 : Int32) < lcmpW (p6.toInt64) (own_hi p3.toInt64 p4.toInt64)))), .unset, .unset] [(.double (FP.l2d (own_minL (p3.toInt64) (p4.toInt64)))), (.double (FP.l2d (own_minL (p1.toInt64) (p2.toInt64)))), (.ref b32), (.ref b32)]))
    refine Go.on (fun t k => XS.lload X32.here hx rfl (hb hby at_113) rfl k) ?_
    show Go p.tables e below s _ _ _ (T32.setTop (mkF m 115 #[.val (.int p1), .val (.int p2), .val (.int p3), .val (.int p4), .val (.int p5), .val (.int p6), .val (.long (own_minL (p1.toInt64) (p2.toInt64))), .second, .val (.long (own_hi p1.toInt64 p2.toInt64)), .second, .val (.long (own_minL (p3.toInt64) (p4.toInt64))), .second, .val (.long (own_hi p3.toInt64 p4.toInt64)), .second, .val (.long (p5.toInt64)), .second, .val (.long (p6.toInt64)), .second, .val (.int (own_b (¬ lcmpW (p6.toInt64) (own_minL (p3.toInt64) (p4.toInt64)) < (0 : Int32) ∧ ¬ (0 : Int32) < lcmpW (p6.toInt64) (own_hi p3.toInt64 p4.toInt64)))), .unset, .unset] [(.long (own_hi p1.toInt64 p2.toInt64)), (.double (FP.l2d (own_minL (p3.toInt64) (p4.toInt64)))), (.double (FP.l2d (own_minL (p1.toInt64) (p2.toInt64)))), (.ref b32), (.ref b32)]))
    refine Go.on (fun t k => XS.l2dS X32.here hx rfl (hb hby at_115) rfl rfl k) ?_
    show Go p.tables e below s _ _ _ (T32.setTop (mkF m 116 #[.val (.int p1), .val (.int p2), .val (.int p3), .val (.int p4), .val (.int p5), .val (.int p6), .val (.long (own_minL (p1.toInt64) (p2.toInt64))), .second, .val (.long (own_hi p1.toInt64 p2.toInt64)), .second, .val (.long (own_minL (p3.toInt64) (p4.toInt64))), .second, .val (.long (own_hi p3.toInt64 p4.toInt64)), .second, .val (.long (p5.toInt64)), .second, .val (.long (p6.toInt64)), .second, .val (.int (own_b (¬ lcmpW (p6.toInt64) (own_minL (p3.toInt64) (p4.toInt64)) < (0 : Int32) ∧ ¬ (0 : Int32) < lcmpW (p6.toInt64) (own_hi p3.toInt64 p4.toInt64)))), .unset, .unset] [(.double (FP.l2d (own_hi p1.toInt64 p2.toInt64))), (.double (FP.l2d (own_minL (p3.toInt64) (p4.toInt64)))), (.double (FP.l2d (own_minL (p1.toInt64) (p2.toInt64)))), (.ref b32), (.ref b32)]))
    refine Go.on (fun t k => XS.lload X32.here hx rfl (hb hby at_116) rfl k) ?_
    show Go p.tables e below s _ _ _ (T32.setTop (mkF m 118 #[.val (.int p1), .val (.int p2), .val (.int p3), .val (.int p4), .val (.int p5), .val (.int p6), .val (.long (own_minL (p1.toInt64) (p2.toInt64))), .second, .val (.long (own_hi p1.toInt64 p2.toInt64)), .second, .val (.long (own_minL (p3.toInt64) (p4.toInt64))), .second, .val (.long (own_hi p3.toInt64 p4.toInt64)), .second, .val (.long (p5.toInt64)), .second, .val (.long (p6.toInt64)), .second, .val (.int (own_b (¬ lcmpW (p6.toInt64) (own_minL (p3.toInt64) (p4.toInt64)) < (0 : Int32) ∧ ¬ (0 : Int32) < lcmpW (p6.toInt64) (own_hi p3.toInt64 p4.toInt64)))), .unset, .unset] [(.long (own_hi p3.toInt64 p4.toInt64)), (.double (FP.l2d (own_hi p1.toInt64 p2.toInt64))), (.double (FP.l2d (own_minL (p3.toInt64) (p4.toInt64)))), (.double (FP.l2d (own_minL (p1.toInt64) (p2.toInt64)))), (.ref b32), (.ref b32)]))
    refine Go.on (fun t k => XS.l2dS X32.here hx rfl (hb hby at_118) rfl rfl k) ?_
    show Go p.tables e below s _ _ _ (T32.setTop (mkF m 119 #[.val (.int p1), .val (.int p2), .val (.int p3), .val (.int p4), .val (.int p5), .val (.int p6), .val (.long (own_minL (p1.toInt64) (p2.toInt64))), .second, .val (.long (own_hi p1.toInt64 p2.toInt64)), .second, .val (.long (own_minL (p3.toInt64) (p4.toInt64))), .second, .val (.long (own_hi p3.toInt64 p4.toInt64)), .second, .val (.long (p5.toInt64)), .second, .val (.long (p6.toInt64)), .second, .val (.int (own_b (¬ lcmpW (p6.toInt64) (own_minL (p3.toInt64) (p4.toInt64)) < (0 : Int32) ∧ ¬ (0 : Int32) < lcmpW (p6.toInt64) (own_hi p3.toInt64 p4.toInt64)))), .unset, .unset] [(.double (FP.l2d (own_hi p3.toInt64 p4.toInt64))), (.double (FP.l2d (own_hi p1.toInt64 p2.toInt64))), (.double (FP.l2d (own_minL (p3.toInt64) (p4.toInt64)))), (.double (FP.l2d (own_minL (p1.toInt64) (p2.toInt64)))), (.ref b32), (.ref b32)]))
    obtain ⟨_, _, ⟨T40, L40, k40, n40⟩, -, X40, ⟨Lc40, hQ40, l40, y40, z40⟩, st40⟩ := X32.specialBack hx (y := (⟨"com/example/gridshift/gridshift/Space", "<init>", "(DDDD)V"⟩ : MethodName)) rfl hown (mvT hZ (hw _ (List.mem_of_getElem? (i := 14) rfl))) (mvT hZ (hw _ (List.mem_of_getElem? (i := 15) rfl))) (mvT hZ (hw _ (List.mem_of_getElem? (i := 16) rfl))) (by decide) (backOf (W := 1) (rm4 l Z a0 hw [] b32 (FP.l2d (own_minL (p1.toInt64) (p2.toInt64))) (FP.l2d (own_minL (p3.toInt64) (p4.toInt64))) (FP.l2d (own_hi p1.toInt64 p2.toInt64)) (FP.l2d (own_hi p3.toInt64 p4.toInt64)) (.double 0) (.double 0) (.double 0) (.double 0) (own_minL p1.toInt64 p2.toInt64) (own_minL p3.toInt64 p4.toInt64) (own_hi p1.toInt64 p2.toInt64) (own_hi p3.toInt64 p4.toInt64) h32 n0 Zp35 A32 ge33 FminLon_36 FminLat_37 FmaxLon_38 FmaxLat_39 rfl rfl rfl rfl (own_lo53 p1 p2) (own_lo53 p3 p4) (own_hi53 p1 p2) (own_hi53 p3 p4) (own_lh p1 p2).2.1 (own_lh p3 p4).2.1) hZ (hw _ (List.mem_of_getElem? (i := 16) rfl)) (hw _ (List.mem_of_getElem? (i := 13) rfl)) (by decide) (by decide)) (g := (mkF m 119 #[.val (.int p1), .val (.int p2), .val (.int p3), .val (.int p4), .val (.int p5), .val (.int p6), .val (.long (own_minL (p1.toInt64) (p2.toInt64))), .second, .val (.long (own_hi p1.toInt64 p2.toInt64)), .second, .val (.long (own_minL (p3.toInt64) (p4.toInt64))), .second, .val (.long (own_hi p3.toInt64 p4.toInt64)), .second, .val (.long (p5.toInt64)), .second, .val (.long (p6.toInt64)), .second, .val (.int (own_b (¬ lcmpW (p6.toInt64) (own_minL (p3.toInt64) (p4.toInt64)) < (0 : Int32) ∧ ¬ (0 : Int32) < lcmpW (p6.toInt64) (own_hi p3.toInt64 p4.toInt64)))), .unset, .unset] [(.double (FP.l2d (own_hi p3.toInt64 p4.toInt64))), (.double (FP.l2d (own_hi p1.toInt64 p2.toInt64))), (.double (FP.l2d (own_minL (p3.toInt64) (p4.toInt64)))), (.double (FP.l2d (own_minL (p1.toInt64) (p2.toInt64)))), (.ref b32), (.ref b32)])) rfl (by rw [hml]; rfl) (Steps.refl _) (a := b32) (argsL := [(.double (FP.l2d (own_minL (p1.toInt64) (p2.toInt64)))), (.double (FP.l2d (own_minL (p3.toInt64) (p4.toInt64)))), (.double (FP.l2d (own_hi p1.toInt64 p2.toInt64))), (.double (FP.l2d (own_hi p3.toInt64 p4.toInt64)))]) (rest := [(.ref b32)]) (lenOf pd__40_DDDD_41_V rfl) rfl (by show 2 * 0 + _ ≤ _; exact Nat.le_of_eq rfl) (hb hby at_119) (fun _ _ => ⟨rfl, e32, (by decide : (((((((0 + 0) + 0) + 0) + 0) + 0) + 0) + 1) + 0 ≤ _), (by decide : (((((((0 + 0) + 0) + 0) + 0) + 0) + 0) + 4) + 0 ≤ _)⟩)
    dsimp only [Pt.U, Pt.locs, Pt.cells, Pt.slots] at X40 l40 y40 z40 st40 hQ40
    rw [l40, y40, z40] at X40
    obtain ⟨rfl, Nq40, Kq40, P40_0, P40_1, P40_2, P40_3⟩ := hQ40
    have A32_41 := A32.keep Kq40
    have Zp42 := Nat.le_trans Zp35 Kq40.1
    have Np43 := Fr.app Np31 Nq40
    refine Go.via st40 ?_
    show Go p.tables e below s _ _ _ (T40.setTop (mkF m 122 #[.val (.int p1), .val (.int p2), .val (.int p3), .val (.int p4), .val (.int p5), .val (.int p6), .val (.long (own_minL (p1.toInt64) (p2.toInt64))), .second, .val (.long (own_hi p1.toInt64 p2.toInt64)), .second, .val (.long (own_minL (p3.toInt64) (p4.toInt64))), .second, .val (.long (own_hi p3.toInt64 p4.toInt64)), .second, .val (.long (p5.toInt64)), .second, .val (.long (p6.toInt64)), .second, .val (.int (own_b (¬ lcmpW (p6.toInt64) (own_minL (p3.toInt64) (p4.toInt64)) < (0 : Int32) ∧ ¬ (0 : Int32) < lcmpW (p6.toInt64) (own_hi p3.toInt64 p4.toInt64)))), .unset, .unset] [(.ref b32)]))
    refine Go.on (fun t k => XS.astore X40.here hx rfl (hb hby at_122) rfl rfl (l' := #[.val (.int p1), .val (.int p2), .val (.int p3), .val (.int p4), .val (.int p5), .val (.int p6), .val (.long (own_minL (p1.toInt64) (p2.toInt64))), .second, .val (.long (own_hi p1.toInt64 p2.toInt64)), .second, .val (.long (own_minL (p3.toInt64) (p4.toInt64))), .second, .val (.long (own_hi p3.toInt64 p4.toInt64)), .second, .val (.long (p5.toInt64)), .second, .val (.long (p6.toInt64)), .second, .val (.int (own_b (¬ lcmpW (p6.toInt64) (own_minL (p3.toInt64) (p4.toInt64)) < (0 : Int32) ∧ ¬ (0 : Int32) < lcmpW (p6.toInt64) (own_hi p3.toInt64 p4.toInt64)))), .val (.ref b32), .unset]) rfl k) ?_
    show Go p.tables e below s _ _ _ (T40.setTop (mkF m 124 #[.val (.int p1), .val (.int p2), .val (.int p3), .val (.int p4), .val (.int p5), .val (.int p6), .val (.long (own_minL (p1.toInt64) (p2.toInt64))), .second, .val (.long (own_hi p1.toInt64 p2.toInt64)), .second, .val (.long (own_minL (p3.toInt64) (p4.toInt64))), .second, .val (.long (own_hi p3.toInt64 p4.toInt64)), .second, .val (.long (p5.toInt64)), .second, .val (.long (p6.toInt64)), .second, .val (.int (own_b (¬ lcmpW (p6.toInt64) (own_minL (p3.toInt64) (p4.toInt64)) < (0 : Int32) ∧ ¬ (0 : Int32) < lcmpW (p6.toInt64) (own_hi p3.toInt64 p4.toInt64)))), .val (.ref b32), .unset] []))
    refine Go.on (fun t k => XS.aload X40.here hx rfl (hb hby at_124) rfl rfl k) ?_
    show Go p.tables e below s _ _ _ (T40.setTop (mkF m 126 #[.val (.int p1), .val (.int p2), .val (.int p3), .val (.int p4), .val (.int p5), .val (.int p6), .val (.long (own_minL (p1.toInt64) (p2.toInt64))), .second, .val (.long (own_hi p1.toInt64 p2.toInt64)), .second, .val (.long (own_minL (p3.toInt64) (p4.toInt64))), .second, .val (.long (own_hi p3.toInt64 p4.toInt64)), .second, .val (.long (p5.toInt64)), .second, .val (.long (p6.toInt64)), .second, .val (.int (own_b (¬ lcmpW (p6.toInt64) (own_minL (p3.toInt64) (p4.toInt64)) < (0 : Int32) ∧ ¬ (0 : Int32) < lcmpW (p6.toInt64) (own_hi p3.toInt64 p4.toInt64)))), .val (.ref b32), .unset] [(.ref b32)]))
    refine Go.on (fun t k => XS.iload X40.here hx rfl (hb hby at_126) rfl k) ?_
    show Go p.tables e below s _ _ _ (T40.setTop (mkF m 128 #[.val (.int p1), .val (.int p2), .val (.int p3), .val (.int p4), .val (.int p5), .val (.int p6), .val (.long (own_minL (p1.toInt64) (p2.toInt64))), .second, .val (.long (own_hi p1.toInt64 p2.toInt64)), .second, .val (.long (own_minL (p3.toInt64) (p4.toInt64))), .second, .val (.long (own_hi p3.toInt64 p4.toInt64)), .second, .val (.long (p5.toInt64)), .second, .val (.long (p6.toInt64)), .second, .val (.int (own_b (¬ lcmpW (p6.toInt64) (own_minL (p3.toInt64) (p4.toInt64)) < (0 : Int32) ∧ ¬ (0 : Int32) < lcmpW (p6.toInt64) (own_hi p3.toInt64 p4.toInt64)))), .val (.ref b32), .unset] [(.int p5), (.ref b32)]))
    refine Go.on (fun t k => XS.i2dS X40.here hx rfl (hb hby at_128) rfl rfl k) ?_
    show Go p.tables e below s _ _ _ (T40.setTop (mkF m 129 #[.val (.int p1), .val (.int p2), .val (.int p3), .val (.int p4), .val (.int p5), .val (.int p6), .val (.long (own_minL (p1.toInt64) (p2.toInt64))), .second, .val (.long (own_hi p1.toInt64 p2.toInt64)), .second, .val (.long (own_minL (p3.toInt64) (p4.toInt64))), .second, .val (.long (own_hi p3.toInt64 p4.toInt64)), .second, .val (.long (p5.toInt64)), .second, .val (.long (p6.toInt64)), .second, .val (.int (own_b (¬ lcmpW (p6.toInt64) (own_minL (p3.toInt64) (p4.toInt64)) < (0 : Int32) ∧ ¬ (0 : Int32) < lcmpW (p6.toInt64) (own_hi p3.toInt64 p4.toInt64)))), .val (.ref b32), .unset] [(.double (FP.i2d p5)), (.ref b32)]))
    refine Go.on (fun t k => XS.iload X40.here hx rfl (hb hby at_129) rfl k) ?_
    show Go p.tables e below s _ _ _ (T40.setTop (mkF m 131 #[.val (.int p1), .val (.int p2), .val (.int p3), .val (.int p4), .val (.int p5), .val (.int p6), .val (.long (own_minL (p1.toInt64) (p2.toInt64))), .second, .val (.long (own_hi p1.toInt64 p2.toInt64)), .second, .val (.long (own_minL (p3.toInt64) (p4.toInt64))), .second, .val (.long (own_hi p3.toInt64 p4.toInt64)), .second, .val (.long (p5.toInt64)), .second, .val (.long (p6.toInt64)), .second, .val (.int (own_b (¬ lcmpW (p6.toInt64) (own_minL (p3.toInt64) (p4.toInt64)) < (0 : Int32) ∧ ¬ (0 : Int32) < lcmpW (p6.toInt64) (own_hi p3.toInt64 p4.toInt64)))), .val (.ref b32), .unset] [(.int p6), (.double (FP.i2d p5)), (.ref b32)]))
    refine Go.on (fun t k => XS.i2dS X40.here hx rfl (hb hby at_131) rfl rfl k) ?_
    show Go p.tables e below s _ _ _ (T40.setTop (mkF m 132 #[.val (.int p1), .val (.int p2), .val (.int p3), .val (.int p4), .val (.int p5), .val (.int p6), .val (.long (own_minL (p1.toInt64) (p2.toInt64))), .second, .val (.long (own_hi p1.toInt64 p2.toInt64)), .second, .val (.long (own_minL (p3.toInt64) (p4.toInt64))), .second, .val (.long (own_hi p3.toInt64 p4.toInt64)), .second, .val (.long (p5.toInt64)), .second, .val (.long (p6.toInt64)), .second, .val (.int (own_b (¬ lcmpW (p6.toInt64) (own_minL (p3.toInt64) (p4.toInt64)) < (0 : Int32) ∧ ¬ (0 : Int32) < lcmpW (p6.toInt64) (own_hi p3.toInt64 p4.toInt64)))), .val (.ref b32), .unset] [(.double (FP.i2d p6)), (.double (FP.i2d p5)), (.ref b32)]))
    obtain ⟨cq44, kq44, q44a, q44b, q44c⟩ := isOf hZ rfl A32_41
    obtain ⟨_, _, ⟨T44, L44, k44, n44⟩, -, X44, ⟨Lc44, hQ44, l44, y44, z44⟩, st44⟩ := X40.virtualBack hx (y := (⟨"com/example/gridshift/gridshift/Space", "contains", "(DD)Z"⟩ : MethodName)) (z := (⟨"com/example/gridshift/gridshift/Space", "contains", "(DD)Z"⟩ : MethodName)) hown (mvT hZ (hw _ (List.mem_of_getElem? (i := 41) rfl))) (mvT hZ (hw _ (List.mem_of_getElem? (i := 42) rfl))) (notFace_of_selects (args := #[]) (mvT hZ (hw _ (List.mem_of_getElem? (i := 44) rfl)))) (mvT hZ (hw _ (List.mem_of_getElem? (i := 44) rfl))) (mvT hZ (hw _ (List.mem_of_getElem? (i := 43) rfl))) (by decide) (backOf (W := 0) (rm9 l Z a0 hw [] b32 (FP.i2d p5) (FP.i2d p6) (own_minL p1.toInt64 p2.toInt64) (own_minL p3.toInt64 p4.toInt64) (own_hi p1.toInt64 p2.toInt64) (own_hi p3.toInt64 p4.toInt64) p5.toInt64 p6.toInt64 T40.heap n0 Zp42 P40_0 P40_1 P40_2 P40_3 (own_lo53 p1 p2) (own_lo53 p3 p4) (own_hi53 p1 p2) (own_hi53 p3 p4) (own_53 p5) (own_53 p6) (i2d_w p5) (i2d_w p6)) hZ (hw _ (List.mem_of_getElem? (i := 45) rfl)) (hw _ (List.mem_of_getElem? (i := 13) rfl)) (by decide) (by decide)) q44a q44c (g := (mkF m 132 #[.val (.int p1), .val (.int p2), .val (.int p3), .val (.int p4), .val (.int p5), .val (.int p6), .val (.long (own_minL (p1.toInt64) (p2.toInt64))), .second, .val (.long (own_hi p1.toInt64 p2.toInt64)), .second, .val (.long (own_minL (p3.toInt64) (p4.toInt64))), .second, .val (.long (own_hi p3.toInt64 p4.toInt64)), .second, .val (.long (p5.toInt64)), .second, .val (.long (p6.toInt64)), .second, .val (.int (own_b (¬ lcmpW (p6.toInt64) (own_minL (p3.toInt64) (p4.toInt64)) < (0 : Int32) ∧ ¬ (0 : Int32) < lcmpW (p6.toInt64) (own_hi p3.toInt64 p4.toInt64)))), .val (.ref b32), .unset] [(.double (FP.i2d p6)), (.double (FP.i2d p5)), (.ref b32)])) rfl (by rw [hml]; rfl) (Steps.refl _) (argsL := [(.double (FP.i2d p5)), (.double (FP.i2d p6))]) (rest := []) (lenOf pd__40_DD_41_Z rfl) rfl (by show 2 * 0 + _ ≤ _; exact Nat.le_of_eq rfl) (hb hby at_132) (fun _ _ => ⟨rfl, rfl, (by decide : ((((((((0 + 0) + 0) + 0) + 0) + 0) + 0) + 1) + 0) + 0 ≤ _), (by decide : ((((((((0 + 0) + 0) + 0) + 0) + 0) + 0) + 4) + 0) + 0 ≤ _)⟩)
    dsimp only [Pt.U, Pt.locs, Pt.cells, Pt.slots] at X44 l44 y44 z44 st44 hQ44
    rw [l44, y44, z44] at X44
    obtain ⟨rfl, Nq44, e44⟩ := hQ44
    have Np45 := Fr.app Np43 Nq44
    refine Go.via st44 ?_
    show Go p.tables e below s _ _ _ (T44.setTop (mkF m 135 #[.val (.int p1), .val (.int p2), .val (.int p3), .val (.int p4), .val (.int p5), .val (.int p6), .val (.long (own_minL (p1.toInt64) (p2.toInt64))), .second, .val (.long (own_hi p1.toInt64 p2.toInt64)), .second, .val (.long (own_minL (p3.toInt64) (p4.toInt64))), .second, .val (.long (own_hi p3.toInt64 p4.toInt64)), .second, .val (.long (p5.toInt64)), .second, .val (.long (p6.toInt64)), .second, .val (.int (own_b (¬ lcmpW (p6.toInt64) (own_minL (p3.toInt64) (p4.toInt64)) < (0 : Int32) ∧ ¬ (0 : Int32) < lcmpW (p6.toInt64) (own_hi p3.toInt64 p4.toInt64)))), .val (.ref b32), .unset] [(.int (own_b (¬ (0 : Int32) < lcmpW (own_minL p1.toInt64 p2.toInt64) p5.toInt64 ∧ ¬ (0 : Int32) < lcmpW p5.toInt64 (own_hi p1.toInt64 p2.toInt64) ∧ ¬ (0 : Int32) < lcmpW (own_minL p3.toInt64 p4.toInt64) p6.toInt64 ∧ ¬ (0 : Int32) < lcmpW p6.toInt64 (own_hi p3.toInt64 p4.toInt64))))]))
    refine Go.on (fun t k => XS.istore X44.here hx rfl (hb hby at_135) rfl (l' := #[.val (.int p1), .val (.int p2), .val (.int p3), .val (.int p4), .val (.int p5), .val (.int p6), .val (.long (own_minL (p1.toInt64) (p2.toInt64))), .second, .val (.long (own_hi p1.toInt64 p2.toInt64)), .second, .val (.long (own_minL (p3.toInt64) (p4.toInt64))), .second, .val (.long (own_hi p3.toInt64 p4.toInt64)), .second, .val (.long (p5.toInt64)), .second, .val (.long (p6.toInt64)), .second, .val (.int (own_b (¬ lcmpW (p6.toInt64) (own_minL (p3.toInt64) (p4.toInt64)) < (0 : Int32) ∧ ¬ (0 : Int32) < lcmpW (p6.toInt64) (own_hi p3.toInt64 p4.toInt64)))), .val (.ref b32), .val (.int (own_b (¬ (0 : Int32) < lcmpW (own_minL p1.toInt64 p2.toInt64) p5.toInt64 ∧ ¬ (0 : Int32) < lcmpW p5.toInt64 (own_hi p1.toInt64 p2.toInt64) ∧ ¬ (0 : Int32) < lcmpW (own_minL p3.toInt64 p4.toInt64) p6.toInt64 ∧ ¬ (0 : Int32) < lcmpW p6.toInt64 (own_hi p3.toInt64 p4.toInt64))))]) rfl k) ?_
    show Go p.tables e below s _ _ _ (T44.setTop (mkF m 137 #[.val (.int p1), .val (.int p2), .val (.int p3), .val (.int p4), .val (.int p5), .val (.int p6), .val (.long (own_minL (p1.toInt64) (p2.toInt64))), .second, .val (.long (own_hi p1.toInt64 p2.toInt64)), .second, .val (.long (own_minL (p3.toInt64) (p4.toInt64))), .second, .val (.long (own_hi p3.toInt64 p4.toInt64)), .second, .val (.long (p5.toInt64)), .second, .val (.long (p6.toInt64)), .second, .val (.int (own_b (¬ lcmpW (p6.toInt64) (own_minL (p3.toInt64) (p4.toInt64)) < (0 : Int32) ∧ ¬ (0 : Int32) < lcmpW (p6.toInt64) (own_hi p3.toInt64 p4.toInt64)))), .val (.ref b32), .val (.int (own_b (¬ (0 : Int32) < lcmpW (own_minL p1.toInt64 p2.toInt64) p5.toInt64 ∧ ¬ (0 : Int32) < lcmpW p5.toInt64 (own_hi p1.toInt64 p2.toInt64) ∧ ¬ (0 : Int32) < lcmpW (own_minL p3.toInt64 p4.toInt64) p6.toInt64 ∧ ¬ (0 : Int32) < lcmpW p6.toInt64 (own_hi p3.toInt64 p4.toInt64))))] []))
    refine Go.on (fun t k => XS.iload X44.here hx rfl (hb hby at_137) rfl k) ?_
    show Go p.tables e below s _ _ _ (T44.setTop (mkF m 139 #[.val (.int p1), .val (.int p2), .val (.int p3), .val (.int p4), .val (.int p5), .val (.int p6), .val (.long (own_minL (p1.toInt64) (p2.toInt64))), .second, .val (.long (own_hi p1.toInt64 p2.toInt64)), .second, .val (.long (own_minL (p3.toInt64) (p4.toInt64))), .second, .val (.long (own_hi p3.toInt64 p4.toInt64)), .second, .val (.long (p5.toInt64)), .second, .val (.long (p6.toInt64)), .second, .val (.int (own_b (¬ lcmpW (p6.toInt64) (own_minL (p3.toInt64) (p4.toInt64)) < (0 : Int32) ∧ ¬ (0 : Int32) < lcmpW (p6.toInt64) (own_hi p3.toInt64 p4.toInt64)))), .val (.ref b32), .val (.int (own_b (¬ (0 : Int32) < lcmpW (own_minL p1.toInt64 p2.toInt64) p5.toInt64 ∧ ¬ (0 : Int32) < lcmpW p5.toInt64 (own_hi p1.toInt64 p2.toInt64) ∧ ¬ (0 : Int32) < lcmpW (own_minL p3.toInt64 p4.toInt64) p6.toInt64 ∧ ¬ (0 : Int32) < lcmpW p6.toInt64 (own_hi p3.toInt64 p4.toInt64))))] [(.int (own_b (¬ (0 : Int32) < lcmpW (own_minL p1.toInt64 p2.toInt64) p5.toInt64 ∧ ¬ (0 : Int32) < lcmpW p5.toInt64 (own_hi p1.toInt64 p2.toInt64) ∧ ¬ (0 : Int32) < lcmpW (own_minL p3.toInt64 p4.toInt64) p6.toInt64 ∧ ¬ (0 : Int32) < lcmpW p6.toInt64 (own_hi p3.toInt64 p4.toInt64))))]))
    refine Go.on (fun t k => XS.iload X44.here hx rfl (hb hby at_139) rfl k) ?_
    show Go p.tables e below s _ _ _ (T44.setTop (mkF m 141 #[.val (.int p1), .val (.int p2), .val (.int p3), .val (.int p4), .val (.int p5), .val (.int p6), .val (.long (own_minL (p1.toInt64) (p2.toInt64))), .second, .val (.long (own_hi p1.toInt64 p2.toInt64)), .second, .val (.long (own_minL (p3.toInt64) (p4.toInt64))), .second, .val (.long (own_hi p3.toInt64 p4.toInt64)), .second, .val (.long (p5.toInt64)), .second, .val (.long (p6.toInt64)), .second, .val (.int (own_b (¬ lcmpW (p6.toInt64) (own_minL (p3.toInt64) (p4.toInt64)) < (0 : Int32) ∧ ¬ (0 : Int32) < lcmpW (p6.toInt64) (own_hi p3.toInt64 p4.toInt64)))), .val (.ref b32), .val (.int (own_b (¬ (0 : Int32) < lcmpW (own_minL p1.toInt64 p2.toInt64) p5.toInt64 ∧ ¬ (0 : Int32) < lcmpW p5.toInt64 (own_hi p1.toInt64 p2.toInt64) ∧ ¬ (0 : Int32) < lcmpW (own_minL p3.toInt64 p4.toInt64) p6.toInt64 ∧ ¬ (0 : Int32) < lcmpW p6.toInt64 (own_hi p3.toInt64 p4.toInt64))))] [(.int (own_b (¬ lcmpW (p6.toInt64) (own_minL (p3.toInt64) (p4.toInt64)) < (0 : Int32) ∧ ¬ (0 : Int32) < lcmpW (p6.toInt64) (own_hi p3.toInt64 p4.toInt64)))), (.int (own_b (¬ (0 : Int32) < lcmpW (own_minL p1.toInt64 p2.toInt64) p5.toInt64 ∧ ¬ (0 : Int32) < lcmpW p5.toInt64 (own_hi p1.toInt64 p2.toInt64) ∧ ¬ (0 : Int32) < lcmpW (own_minL p3.toInt64 p4.toInt64) p6.toInt64 ∧ ¬ (0 : Int32) < lcmpW p6.toInt64 (own_hi p3.toInt64 p4.toInt64))))]))
    refine Go.on (fun t k => XS.icmpNo X44.here hx rfl (hb hby at_141) rfl (teq (own_eq hc83_15)).2 k) ?_
    show Go p.tables e below s _ _ _ (T44.setTop (mkF m 144 #[.val (.int p1), .val (.int p2), .val (.int p3), .val (.int p4), .val (.int p5), .val (.int p6), .val (.long (own_minL (p1.toInt64) (p2.toInt64))), .second, .val (.long (own_hi p1.toInt64 p2.toInt64)), .second, .val (.long (own_minL (p3.toInt64) (p4.toInt64))), .second, .val (.long (own_hi p3.toInt64 p4.toInt64)), .second, .val (.long (p5.toInt64)), .second, .val (.long (p6.toInt64)), .second, .val (.int (own_b (¬ lcmpW (p6.toInt64) (own_minL (p3.toInt64) (p4.toInt64)) < (0 : Int32) ∧ ¬ (0 : Int32) < lcmpW (p6.toInt64) (own_hi p3.toInt64 p4.toInt64)))), .val (.ref b32), .val (.int (own_b (¬ (0 : Int32) < lcmpW (own_minL p1.toInt64 p2.toInt64) p5.toInt64 ∧ ¬ (0 : Int32) < lcmpW p5.toInt64 (own_hi p1.toInt64 p2.toInt64) ∧ ¬ (0 : Int32) < lcmpW (own_minL p3.toInt64 p4.toInt64) p6.toInt64 ∧ ¬ (0 : Int32) < lcmpW p6.toInt64 (own_hi p3.toInt64 p4.toInt64))))] []))
    refine Go.on (fun t k => XS.iconst X44.here hx rfl (hb hby at_144) k) ?_
    show Go p.tables e below s _ _ _ (T44.setTop (mkF m 145 #[.val (.int p1), .val (.int p2), .val (.int p3), .val (.int p4), .val (.int p5), .val (.int p6), .val (.long (own_minL (p1.toInt64) (p2.toInt64))), .second, .val (.long (own_hi p1.toInt64 p2.toInt64)), .second, .val (.long (own_minL (p3.toInt64) (p4.toInt64))), .second, .val (.long (own_hi p3.toInt64 p4.toInt64)), .second, .val (.long (p5.toInt64)), .second, .val (.long (p6.toInt64)), .second, .val (.int (own_b (¬ lcmpW (p6.toInt64) (own_minL (p3.toInt64) (p4.toInt64)) < (0 : Int32) ∧ ¬ (0 : Int32) < lcmpW (p6.toInt64) (own_hi p3.toInt64 p4.toInt64)))), .val (.ref b32), .val (.int (own_b (¬ (0 : Int32) < lcmpW (own_minL p1.toInt64 p2.toInt64) p5.toInt64 ∧ ¬ (0 : Int32) < lcmpW p5.toInt64 (own_hi p1.toInt64 p2.toInt64) ∧ ¬ (0 : Int32) < lcmpW (own_minL p3.toInt64 p4.toInt64) p6.toInt64 ∧ ¬ (0 : Int32) < lcmpW p6.toInt64 (own_hi p3.toInt64 p4.toInt64))))] [(.int (1 : Int32))]))
    refine Go.on (fun t k => XS.goto X44.here hx rfl (pc0 := 145) (pc' := 149) rfl (hb hby at_145) (by decide) (by decide) k) ?_
    show Go p.tables e below s _ _ _ (T44.setTop (mkF m 149 #[.val (.int p1), .val (.int p2), .val (.int p3), .val (.int p4), .val (.int p5), .val (.int p6), .val (.long (own_minL (p1.toInt64) (p2.toInt64))), .second, .val (.long (own_hi p1.toInt64 p2.toInt64)), .second, .val (.long (own_minL (p3.toInt64) (p4.toInt64))), .second, .val (.long (own_hi p3.toInt64 p4.toInt64)), .second, .val (.long (p5.toInt64)), .second, .val (.long (p6.toInt64)), .second, .val (.int (own_b (¬ lcmpW (p6.toInt64) (own_minL (p3.toInt64) (p4.toInt64)) < (0 : Int32) ∧ ¬ (0 : Int32) < lcmpW (p6.toInt64) (own_hi p3.toInt64 p4.toInt64)))), .val (.ref b32), .val (.int (own_b (¬ (0 : Int32) < lcmpW (own_minL p1.toInt64 p2.toInt64) p5.toInt64 ∧ ¬ (0 : Int32) < lcmpW p5.toInt64 (own_hi p1.toInt64 p2.toInt64) ∧ ¬ (0 : Int32) < lcmpW (own_minL p3.toInt64 p4.toInt64) p6.toInt64 ∧ ¬ (0 : Int32) < lcmpW p6.toInt64 (own_hi p3.toInt64 p4.toInt64))))] [(.int (1 : Int32))]))
    refine Go.retN X44 hx hlk (t := .boolean) Bd.returns (by simp) (hb hby at_149) (by decide) (by decide) e44 ?_
    exact ⟨rfl, Np45⟩
set_option maxRecDepth 65536 in
set_option maxHeartbeats 40000000 in
theorem comes_1 {Post : Tables → Env → Array Value → State → Outcome → State → Prop} (hpost : ∀ tb e args s v u, (limb_1_1.after args s (.returned v) u = true ∧ limb_1_2.after args s (.returned v) u = true ∧ True) → FrameEnd s (.returned v) u (Jvm.fieldLocs frame_1_writes args s ++ Jvm.arrayLocs frame_1_arrays args s ++ Jvm.staticLocs frame_1_statics s) 16 128 → Post tb e args s (.returned v) u) :
    ArmFor flags0 classFile x code maxLocals ret World_1 tables_1 room_1 Calls_1 rest_1 Pre_1 Post := by
  intro l hfl _ _ p e ha hc hk s m args below hf hA hF happ hP
  obtain ⟨hcalls, hrest, hpre⟩ := hP
  obtain ⟨-, -, -, hnamed, -, -, -, hat⟩ := (Spec.applies_iff hf).mp happ
  obtain ⟨hg, hn⟩ := and_e (Cond.before_iff.mp (show (Jvm.Cond.and given_1 narrow_1).before args s = true from hpre))
  obtain ⟨gg1, gg2⟩ := and_e hg
  obtain ⟨gg3, gg4⟩ := and_e gg2
  obtain ⟨gg5, gg6⟩ := and_e gg4
  obtain ⟨gg7, gg8⟩ := and_e gg6
  obtain ⟨gg9, gg10⟩ := and_e gg8
  obtain ⟨gg11, gg12⟩ := and_e gg10
  obtain ⟨w0, w1, w2, w3, w4, w5, rfl⟩ : ∃ w0 w1 w2 w3 w4 w5 : Value, args = #[w0, w1, w2, w3, w4, w5] := by
    have hs : args.size = 6 := by simpa [Cond.value, given_1] using gg1
    obtain ⟨L⟩ := args
    match L, hs with
    | [w0, w1, w2, w3, w4, w5], _ => exact ⟨w0, w1, w2, w3, w4, w5, rfl⟩
  have hw := fun d (hd : d ∈ tables_1) => atoms_spec (ws := Jvm.Cond.code x code maxLocals ret :: tables_1) hat d (List.mem_cons_of_mem _ hd)
  have hfit : Fit s := fun {y c} hc i hi => by
    obtain ⟨ha, rfl⟩ := Array.getElem?_eq_some_iff.mp hc
    have q := List.all_eq_true.mp ((Array.all_eq_true_iff_forall_mem.mp hF) _ (Array.getElem_mem ha)) i (List.mem_range.mpr hi)
    simpa [Array.getElem?_eq_getElem hi] using q
  obtain ⟨i0, ei0⟩ := is_v gg3
  obtain rfl : w0 = (.int i0) := Option.some.inj ei0
  obtain ⟨i1, ei1⟩ := is_v gg5
  obtain rfl : w1 = (.int i1) := Option.some.inj ei1
  obtain ⟨i2, ei2⟩ := is_v gg7
  obtain rfl : w2 = (.int i2) := Option.some.inj ei2
  obtain ⟨i3, ei3⟩ := is_v gg9
  obtain rfl : w3 = (.int i3) := Option.some.inj ei3
  obtain ⟨i4, ei4⟩ := is_v gg11
  obtain rfl : w4 = (.int i4) := Option.some.inj ei4
  obtain ⟨i5, ei5⟩ := is_v gg12
  obtain rfl : w5 = (.int i5) := Option.some.inj ei5
  obtain ⟨n, o, h1, h2, h3, _, L, rfl, ⟨rfl, N⟩, hq⟩ := rm0 l s _ hw tables_1 i0 i1 i2 i3 i4 i5  s.heap s.heap.size (Nat.le_refl _)  p e ha hc hk s m _ below hf ((Spec.applies_iff_loose hf).mp happ).1 ⟨rfl, State.Warmed39.refl s, rfl⟩ trivial
  refine ⟨n, _, h1, h2, h3, hpost _ _ _ _ _ _ ⟨Cond.after_iff.mpr rfl, Cond.after_iff.mpr (eq_i res_at (Term.int_eval (1)) rfl), trivial⟩ ⟨hq.1, hq.2.1, (hq.2.2.sift fun y hy => Or.inr (N y hy)).mono (by decide) (by decide)⟩⟩
theorem main_1_1 : Claimed_1_1 := comes_1 fun _ _ _ _ _ _ h hF => ⟨h.1, hF⟩
theorem main_1_2 : Claimed_1_2 := comes_1 fun _ _ _ _ _ _ h hF => ⟨h.2.1, hF⟩
end Jvm.Pilot.@@N@@
namespace Jvm.Pilot.@@N@@
open Jvm Jvm.ClassFile Sem Op Lib Jvm.Free Jvm.Stand Jvm.Pilot.@@N@@.Jvm.D
/-! MADE BY PROGRAM (witnessworld.py) out of the Statement's table words and the real class files: 16 classes; the members and pool entries that the words name. The judged class is class 1, her method 2. -/
namespace start1
open Jvm.ClassFile
def u (s : String) : CpInfo := .utf8 (stringToUtf16 s)
/-- a pool by its gaps: so many unusable entries, then the entry; so many at the end -/
def gap : Nat → List CpInfo → List CpInfo
  | 0, r => r
  | n + 1, r => .unusable :: gap n r
def poolList (es : List (Nat × CpInfo)) (last : Nat) : List CpInfo := es.foldr (fun e r => gap e.1 (e.2 :: r)) (gap last [])
def pool (es : List (Nat × CpInfo)) (last : Nat) : Array CpInfo := ⟨poolList es last⟩
def fileOf (pool : Array CpInfo) (this : Nat) (attrs : Array Attribute := #[]) (ms : Array MethodInfo := #[]) (fl : Nat := 33) (sup : Nat := 0) (ifs : Array Nat := #[]) (fds : Array FieldInfo := #[]) : ClassFile where
  minorVersion := 0
  majorVersion := 65
  constantPool := pool
  accessFlags := fl
  thisClass := this
  superClass := sup
  interfaces := ifs
  fields := fds
  methods := ms
  attributes := attrs
def plain (name : String) (sup : Option ClassId) : Class where
  name := name
  kind := .ordinary
  loader := none
  accessFlags := 33
  super := sup
  interfaces := #[]
  cf := none
  fields := #[]
  methods := #[]
  instanceTypes := #[]
  staticTypes := #[]
  resolved := #[]
  callSites := []
  init := .initialized
  statics := none
  mirror := none

def pool0 : Array CpInfo := pool [(5, u "<init>"), (0, u "()V"), (1, .class_ 10), (1, u "java/lang/Object")] 113

def k0c0 : Code := { maxStack := 0, maxLocals := 1, code := object_method_1_code, exceptionTable := #[], attributes := #[] }
def k0m0 : Method := { name := "<init>", desc := "()V", sig := { parameters := [], returnType := none }, accessFlags := 1, code := some k0c0 }
/-- java/lang/Object -/
def k0 : Class := { plain "java/lang/Object" none with
  accessFlags := 33
  interfaces := #[]
  cf := some (fileOf pool0 8 #[] #[{ accessFlags := 1, nameIndex := 5, descriptorIndex := 6, attributes := #[] }] 33 0 #[] #[])
  fields := #[]
  methods := #[k0m0]
  instanceTypes := #[]
  staticTypes := #[]
  resolved := Array.replicate 124 none
  statics := none }

def pool1 : Array CpInfo := pool [(2, .class_ 4), (1, u "java/lang/Object"), (0, u "<init>"), (0, u "()V"), (0, .methodref 8 9), (0, .class_ 10), (0, .nameAndType 11 12), (0, u "java/lang/Math"), (0, u "min"), (0, u "(JJ)J"), (0, .methodref 8 14), (0, .nameAndType 15 12), (0, u "max"), (0, .methodref 17 18), (0, .class_ 19), (0, .nameAndType 20 21), (0, u "com/example/gridshift/gridshift/SpaceContainsPinLaw"), (0, u "within"), (0, u "(JJJ)Z"), (0, .class_ 23), (0, u "com/example/gridshift/gridshift/Space"), (0, .methodref 22 25), (0, .nameAndType 5 26), (0, u "(DDDD)V"), (0, .methodref 22 28), (0, .nameAndType 29 30), (0, u "contains"), (0, u "(DD)Z"), (3, u "law"), (0, u "(IIIIII)Z")] 2

def k1m0 : Method := { name := "<init>", desc := "()V", sig := { parameters := [], returnType := none }, accessFlags := 2, code := none }
def k1c1 : Code := { maxStack := 4, maxLocals := 6, code := method_2_code, exceptionTable := #[], attributes := #[] }
def k1m1 : Method := { name := "within", desc := "(JJJ)Z", sig := { parameters := [.long, .long, .long], returnType := some .boolean }, accessFlags := 10, code := some k1c1 }
def k1c2 : Code := { maxStack := 10, maxLocals := 21, code := code, exceptionTable := #[], attributes := #[] }
def k1m2 : Method := { name := "law", desc := "(IIIIII)Z", sig := { parameters := [.int, .int, .int, .int, .int, .int], returnType := some .boolean }, accessFlags := 9, code := some k1c2 }
/-- com/example/gridshift/gridshift/SpaceContainsPinLaw -/
def k1 : Class := { plain "com/example/gridshift/gridshift/SpaceContainsPinLaw" (some 0) with
  accessFlags := 49
  interfaces := #[]
  cf := some (fileOf pool1 17 #[] #[{ accessFlags := 2, nameIndex := 5, descriptorIndex := 6, attributes := #[] }, { accessFlags := 10, nameIndex := 20, descriptorIndex := 21, attributes := #[] }, { accessFlags := 9, nameIndex := 34, descriptorIndex := 35, attributes := #[] }] 49 2 #[] #[])
  fields := #[]
  methods := #[k1m0, k1m1, k1m2]
  instanceTypes := #[]
  staticTypes := #[]
  resolved := Array.replicate 38 none
  statics := none }

def pool2 : Array CpInfo := pool [(1, .class_ 2), (0, u "java/lang/Math"), (1, .class_ 6), (1, u "java/lang/Object"), (0, u "<init>"), (0, u "()V"), (5, u "(D)D"), (83, .class_ 100), (1, u "java/lang/Math$RandomNumberGeneratorHolder"), (20, u "(JJ)J"), (2, u "abs"), (47, u "negativeZeroFloatBits"), (0, u "J"), (2, u "negativeZeroDoubleBits"), (21, u "max"), (2, u "min"), (43, u "$assertionsDisabled"), (0, u "Z"), (91, u "twoToTheDoubleScaleDown"), (0, u "D"), (4, u "twoToTheDoubleScaleUp"), (9, u "E"), (3, u "PI"), (2, u "TAU"), (2, u "DEGREES_TO_RADIANS"), (0, u "RADIANS_TO_DEGREES")] 94

def k2m0 : Method := { name := "<init>", desc := "()V", sig := { parameters := [], returnType := none }, accessFlags := 2, code := none }
def k2c1 : Code := { maxStack := 4, maxLocals := 2, code := jdk_29_method_64_code, exceptionTable := #[], attributes := #[] }
def k2m1 : Method := { name := "abs", desc := "(D)D", sig := { parameters := [.double], returnType := some .double }, accessFlags := 9, code := some k2c1 }
def k2c2 : Code := { maxStack := 4, maxLocals := 4, code := jdk_29_method_66_code, exceptionTable := #[], attributes := #[] }
def k2m2 : Method := { name := "max", desc := "(JJ)J", sig := { parameters := [.long, .long], returnType := some .long }, accessFlags := 9, code := some k2c2 }
def k2c3 : Code := { maxStack := 4, maxLocals := 4, code := jdk_29_method_70_code, exceptionTable := #[], attributes := #[] }
def k2m3 : Method := { name := "min", desc := "(JJ)J", sig := { parameters := [.long, .long], returnType := some .long }, accessFlags := 9, code := some k2c3 }
/-- java/lang/Math -/
def k2 : Class := { plain "java/lang/Math" (some 0) with
  accessFlags := 49
  interfaces := #[]
  cf := some (fileOf pool2 1 #[.nestMembers #[98]] #[{ accessFlags := 2, nameIndex := 7, descriptorIndex := 8, attributes := #[] }, { accessFlags := 9, nameIndex := 124, descriptorIndex := 14, attributes := #[] }, { accessFlags := 9, nameIndex := 198, descriptorIndex := 121, attributes := #[] }, { accessFlags := 9, nameIndex := 201, descriptorIndex := 121, attributes := #[] }] 49 4 #[] #[{ accessFlags := 25, nameIndex := 354, descriptorIndex := 339, attributes := #[] }, { accessFlags := 25, nameIndex := 358, descriptorIndex := 339, attributes := #[] }, { accessFlags := 25, nameIndex := 361, descriptorIndex := 339, attributes := #[] }, { accessFlags := 26, nameIndex := 364, descriptorIndex := 339, attributes := #[] }, { accessFlags := 26, nameIndex := 365, descriptorIndex := 339, attributes := #[] }, { accessFlags := 26, nameIndex := 172, descriptorIndex := 173, attributes := #[] }, { accessFlags := 26, nameIndex := 176, descriptorIndex := 173, attributes := #[] }, { accessFlags := 8, nameIndex := 344, descriptorIndex := 339, attributes := #[] }, { accessFlags := 8, nameIndex := 338, descriptorIndex := 339, attributes := #[] }, { accessFlags := 4120, nameIndex := 245, descriptorIndex := 246, attributes := #[] }])
  fields := #[{ name := "E", type := .double, accessFlags := 25, slot := 0, constantValue := 0 }, { name := "PI", type := .double, accessFlags := 25, slot := 1, constantValue := 0 }, { name := "TAU", type := .double, accessFlags := 25, slot := 2, constantValue := 0 }, { name := "DEGREES_TO_RADIANS", type := .double, accessFlags := 26, slot := 3, constantValue := 0 }, { name := "RADIANS_TO_DEGREES", type := .double, accessFlags := 26, slot := 4, constantValue := 0 }, { name := "negativeZeroFloatBits", type := .long, accessFlags := 26, slot := 5, constantValue := 0 }, { name := "negativeZeroDoubleBits", type := .long, accessFlags := 26, slot := 6, constantValue := 0 }, { name := "twoToTheDoubleScaleUp", type := .double, accessFlags := 8, slot := 7, constantValue := 0 }, { name := "twoToTheDoubleScaleDown", type := .double, accessFlags := 8, slot := 8, constantValue := 0 }, { name := "$assertionsDisabled", type := .boolean, accessFlags := 4120, slot := 9, constantValue := 0 }]
  methods := #[k2m0, k2m1, k2m2, k2m3]
  instanceTypes := #[]
  staticTypes := #[.double, .double, .double, .double, .double, .long, .long, .double, .double, .boolean]
  resolved := Array.replicate 460 none
  statics := none }

def pool3 : Array CpInfo := pool [(1, .methodref 2 3), (0, .class_ 4), (0, .nameAndType 5 6), (0, u "java/lang/Object"), (0, u "<init>"), (0, u "()V"), (0, .class_ 8), (0, u "java/lang/Record")] 13

def k3c0 : Code := { maxStack := 1, maxLocals := 1, code := jdk_30_method_1_code, exceptionTable := #[], attributes := #[] }
def k3m0 : Method := { name := "<init>", desc := "()V", sig := { parameters := [], returnType := none }, accessFlags := 4, code := some k3c0 }
/-- java/lang/Record -/
def k3 : Class := { plain "java/lang/Record" (some 0) with
  accessFlags := 1057
  interfaces := #[]
  cf := some (fileOf pool3 7 #[] #[{ accessFlags := 4, nameIndex := 5, descriptorIndex := 6, attributes := #[] }] 1057 2 #[] #[])
  fields := #[]
  methods := #[k3m0]
  instanceTypes := #[]
  staticTypes := #[]
  resolved := Array.replicate 22 none
  statics := none }

def pool4 : Array CpInfo := pool [(1, .methodref 2 3), (0, .class_ 4), (0, .nameAndType 5 6), (0, u "java/lang/Record"), (0, u "<init>"), (0, u "()V"), (0, .methodref 8 9), (0, .class_ 10), (0, .nameAndType 11 12), (0, u "java/lang/Double"), (0, u "isFinite"), (0, u "(D)Z"), (12, .fieldref 26 27), (0, .class_ 28), (0, .nameAndType 29 30), (0, u "com/example/gridshift/gridshift/Space"), (0, u "minLon"), (0, u "D"), (0, .fieldref 26 32), (0, .nameAndType 33 30), (0, u "minLat"), (0, .fieldref 26 35), (0, .nameAndType 36 30), (0, u "maxLon"), (0, .fieldref 26 38), (0, .nameAndType 39 30), (0, u "maxLat"), (19, u "(DDDD)V"), (20, u "contains"), (0, u "(DD)Z")] 39

def k4c0 : Code := { maxStack := 6, maxLocals := 9, code := prog_73_method_1_code, exceptionTable := #[], attributes := #[] }
def k4m0 : Method := { name := "<init>", desc := "(DDDD)V", sig := { parameters := [.double, .double, .double, .double], returnType := none }, accessFlags := 0, code := some k4c0 }
def k4c1 : Code := { maxStack := 4, maxLocals := 5, code := prog_73_method_3_code, exceptionTable := #[], attributes := #[] }
def k4m1 : Method := { name := "contains", desc := "(DD)Z", sig := { parameters := [.double, .double], returnType := some .boolean }, accessFlags := 0, code := some k4c1 }
/-- com/example/gridshift/gridshift/Space -/
def k4 : Class := { plain "com/example/gridshift/gridshift/Space" (some 3) with
  accessFlags := 48
  interfaces := #[]
  cf := some (fileOf pool4 26 #[] #[{ accessFlags := 0, nameIndex := 5, descriptorIndex := 59, attributes := #[] }, { accessFlags := 0, nameIndex := 80, descriptorIndex := 81, attributes := #[] }] 48 2 #[] #[{ accessFlags := 18, nameIndex := 29, descriptorIndex := 30, attributes := #[] }, { accessFlags := 18, nameIndex := 33, descriptorIndex := 30, attributes := #[] }, { accessFlags := 18, nameIndex := 36, descriptorIndex := 30, attributes := #[] }, { accessFlags := 18, nameIndex := 39, descriptorIndex := 30, attributes := #[] }])
  fields := #[{ name := "minLon", type := .double, accessFlags := 18, slot := 0, constantValue := 0 }, { name := "minLat", type := .double, accessFlags := 18, slot := 1, constantValue := 0 }, { name := "maxLon", type := .double, accessFlags := 18, slot := 2, constantValue := 0 }, { name := "maxLat", type := .double, accessFlags := 18, slot := 3, constantValue := 0 }]
  methods := #[k4m0, k4m1]
  instanceTypes := #[.double, .double, .double, .double]
  staticTypes := #[]
  resolved := Array.replicate 121 none
  statics := none }

def pool5 : Array CpInfo := pool [(1, .class_ 2), (0, u "java/io/Serializable"), (0, .class_ 4), (0, u "java/lang/Object")] 2

/-- java/io/Serializable -/
def k5 : Class := { plain "java/io/Serializable" (some 0) with
  accessFlags := 1537
  interfaces := #[]
  cf := some (fileOf pool5 1 #[] #[] 1537 3 #[] #[])
  fields := #[]
  methods := #[]
  instanceTypes := #[]
  staticTypes := #[]
  resolved := Array.replicate 7 none
  statics := none }

def pool6 : Array CpInfo := pool [(2, .class_ 4), (1, u "java/lang/Object"), (0, u "<init>"), (0, u "()V"), (1, .class_ 10), (1, u "java/lang/Number"), (2, .class_ 14), (0, u "java/io/Serializable"), (0, u "serialVersionUID"), (0, u "J")] 20

def k6m0 : Method := { name := "<init>", desc := "()V", sig := { parameters := [], returnType := none }, accessFlags := 1, code := none }
/-- java/lang/Number -/
def k6 : Class := { plain "java/lang/Number" (some 0) with
  accessFlags := 1057
  interfaces := #[5]
  cf := some (fileOf pool6 8 #[] #[{ accessFlags := 1, nameIndex := 5, descriptorIndex := 6, attributes := #[] }] 1057 2 #[13] #[{ accessFlags := 26, nameIndex := 15, descriptorIndex := 16, attributes := #[] }])
  fields := #[{ name := "serialVersionUID", type := .long, accessFlags := 26, slot := 0, constantValue := 0 }]
  methods := #[k6m0]
  instanceTypes := #[]
  staticTypes := #[.long]
  resolved := Array.replicate 37 none
  statics := none }

def pool7 : Array CpInfo := pool [(1, .class_ 2), (0, u "java/lang/Comparable"), (0, .class_ 4), (0, u "java/lang/Object")] 7

/-- java/lang/Comparable -/
def k7 : Class := { plain "java/lang/Comparable" (some 0) with
  accessFlags := 1537
  interfaces := #[]
  cf := some (fileOf pool7 1 #[] #[] 1537 3 #[] #[])
  fields := #[]
  methods := #[]
  instanceTypes := #[]
  staticTypes := #[]
  resolved := Array.replicate 12 none
  statics := none }

def pool8 : Array CpInfo := pool [(1, .class_ 2), (0, u "java/lang/constant/Constable"), (0, .class_ 4), (0, u "java/lang/Object")] 6

/-- java/lang/constant/Constable -/
def k8 : Class := { plain "java/lang/constant/Constable" (some 0) with
  accessFlags := 1537
  interfaces := #[]
  cf := some (fileOf pool8 1 #[] #[] 1537 3 #[] #[])
  fields := #[]
  methods := #[]
  instanceTypes := #[]
  staticTypes := #[]
  resolved := Array.replicate 11 none
  statics := none }

def pool9 : Array CpInfo := pool [(1, .class_ 2), (0, u "java/lang/constant/ConstantDesc"), (0, .class_ 4), (0, u "java/lang/Object")] 32

/-- java/lang/constant/ConstantDesc -/
def k9 : Class := { plain "java/lang/constant/ConstantDesc" (some 0) with
  accessFlags := 1537
  interfaces := #[]
  cf := some (fileOf pool9 1 #[] #[] 1537 3 #[] #[])
  fields := #[]
  methods := #[]
  instanceTypes := #[]
  staticTypes := #[]
  resolved := Array.replicate 37 none
  statics := none }

def pool10 : Array CpInfo := pool [(1, .class_ 2), (0, u "java/lang/Double"), (10, u "isFinite"), (0, u "(D)Z"), (8, .class_ 25), (1, u "java/lang/Math"), (12, .methodref 23 39), (0, .nameAndType 40 41), (0, u "abs"), (0, u "(D)D"), (69, .double 9218868437227405311), (2, .class_ 116), (1, u "java/lang/Number"), (3, u "value"), (0, u "D"), (51, u "TYPE"), (0, u "Ljava/lang/Class;"), (0, .class_ 176), (0, u "java/lang/Comparable"), (0, .class_ 178), (0, u "java/lang/constant/Constable"), (0, .class_ 180), (0, u "java/lang/constant/ConstantDesc"), (0, u "POSITIVE_INFINITY"), (3, u "NEGATIVE_INFINITY"), (2, u "NaN"), (2, u "MAX_VALUE"), (0, u "MIN_NORMAL"), (0, u "MIN_VALUE"), (2, u "SIZE"), (0, u "I"), (1, u "PRECISION"), (1, u "MAX_EXPONENT"), (1, u "MIN_EXPONENT"), (1, u "BYTES"), (3, u "serialVersionUID"), (0, u "J")] 79

def k10c0 : Code := { maxStack := 4, maxLocals := 2, code := jdk_117_method_8_code, exceptionTable := #[], attributes := #[] }
def k10m0 : Method := { name := "isFinite", desc := "(D)Z", sig := { parameters := [.double], returnType := some .boolean }, accessFlags := 9, code := some k10c0 }
/-- java/lang/Double -/
def k10 : Class := { plain "java/lang/Double" (some 6) with
  accessFlags := 49
  interfaces := #[7, 8, 9]
  cf := some (fileOf pool10 1 #[] #[{ accessFlags := 9, nameIndex := 13, descriptorIndex := 14, attributes := #[] }] 49 114 #[175, 177, 179] #[{ accessFlags := 25, nameIndex := 181, descriptorIndex := 121, attributes := #[] }, { accessFlags := 25, nameIndex := 185, descriptorIndex := 121, attributes := #[] }, { accessFlags := 25, nameIndex := 188, descriptorIndex := 121, attributes := #[] }, { accessFlags := 25, nameIndex := 191, descriptorIndex := 121, attributes := #[] }, { accessFlags := 25, nameIndex := 192, descriptorIndex := 121, attributes := #[] }, { accessFlags := 25, nameIndex := 193, descriptorIndex := 121, attributes := #[] }, { accessFlags := 25, nameIndex := 196, descriptorIndex := 197, attributes := #[] }, { accessFlags := 25, nameIndex := 199, descriptorIndex := 197, attributes := #[] }, { accessFlags := 25, nameIndex := 201, descriptorIndex := 197, attributes := #[] }, { accessFlags := 25, nameIndex := 203, descriptorIndex := 197, attributes := #[] }, { accessFlags := 25, nameIndex := 205, descriptorIndex := 197, attributes := #[] }, { accessFlags := 25, nameIndex := 173, descriptorIndex := 174, attributes := #[] }, { accessFlags := 18, nameIndex := 120, descriptorIndex := 121, attributes := #[] }, { accessFlags := 26, nameIndex := 209, descriptorIndex := 210, attributes := #[] }])
  fields := #[{ name := "POSITIVE_INFINITY", type := .double, accessFlags := 25, slot := 0, constantValue := 0 }, { name := "NEGATIVE_INFINITY", type := .double, accessFlags := 25, slot := 1, constantValue := 0 }, { name := "NaN", type := .double, accessFlags := 25, slot := 2, constantValue := 0 }, { name := "MAX_VALUE", type := .double, accessFlags := 25, slot := 3, constantValue := 0 }, { name := "MIN_NORMAL", type := .double, accessFlags := 25, slot := 4, constantValue := 0 }, { name := "MIN_VALUE", type := .double, accessFlags := 25, slot := 5, constantValue := 0 }, { name := "SIZE", type := .int, accessFlags := 25, slot := 6, constantValue := 0 }, { name := "PRECISION", type := .int, accessFlags := 25, slot := 7, constantValue := 0 }, { name := "MAX_EXPONENT", type := .int, accessFlags := 25, slot := 8, constantValue := 0 }, { name := "MIN_EXPONENT", type := .int, accessFlags := 25, slot := 9, constantValue := 0 }, { name := "BYTES", type := .int, accessFlags := 25, slot := 10, constantValue := 0 }, { name := "TYPE", type := (.object "java/lang/Class"), accessFlags := 25, slot := 11, constantValue := 0 }, { name := "value", type := .double, accessFlags := 18, slot := 0, constantValue := 0 }, { name := "serialVersionUID", type := .long, accessFlags := 26, slot := 12, constantValue := 0 }]
  methods := #[k10m0]
  instanceTypes := #[.double]
  staticTypes := #[.double, .double, .double, .double, .double, .double, .int, .int, .int, .int, .int, (.object "java/lang/Class"), .long]
  resolved := Array.replicate 290 none
  statics := none }

def pool11 : Array CpInfo := pool [(1, u "java/lang/Cloneable"), (0, .class_ 1), (0, u "java/lang/Object"), (0, .class_ 3)] 3

/-- java/lang/Cloneable -/
def k11 : Class := { plain "java/lang/Cloneable" (some 0) with
  accessFlags := 1537
  interfaces := #[]
  cf := some (fileOf pool11 2 #[] #[] 1537 4 #[] #[])
  fields := #[]
  methods := #[]
  instanceTypes := #[]
  staticTypes := #[]
  resolved := Array.replicate 8 none
  statics := none }

/-- the primitive byte -/
def k12 : Class := { plain "byte" none with kind := .primitive 'B', accessFlags := 0x411 }
/-- [B -/
def k13 : Class := { plain "[B" (some 0) with kind := .array 12 .byte, interfaces := #[11, 5], accessFlags := 1041 }

/-- the primitive int -/
def k14 : Class := { plain "int" none with kind := .primitive 'I', accessFlags := 0x411 }
/-- [I -/
def k15 : Class := { plain "[I" (some 0) with kind := .array 14 .int, interfaces := #[11, 5], accessFlags := 1041 }

def heap : Heap := #[]
def classes : Array Class := #[k0, k1, k2, k3, k4, k5, k6, k7, k8, k9, k10, k11, k12, k13, k14, k15]
def interned : List (Array UInt16 × Addr) := []
def slotsUsed : Nat := 0
def theMethod : MethodId := ⟨1, 2⟩
def args0 : Array Value := #[.int 5, .int 1, .int 2, .int 7, .int 3, .int 4]
def aboutOver (below : List Frame) : State where
  vm := { classes := classes, interned := interned.toArray }
  heap := heap
  slotsUsed := slotsUsed
  threads := #[{ frames := .invoking theMethod args0 :: below }]
def below0 : List Frame := [.native { method := ⟨0, 0⟩, args := #[] }]
def about1 : State := aboutOver below0
def p0 : Program := .bare "" "" ""
def e0 : Env := launch0.env 0 0 0
theorem w_frames : about1.frames = Frame.invoking theMethod args0 :: below0 := rfl
set_option maxRecDepth 65536 in
theorem w_args : argsFit about1.vm theMethod args0 = true := by decide +kernel
set_option maxRecDepth 65536 in
theorem w_heap : heapFits about1 = true := by decide +kernel
set_option maxRecDepth 65536 in
theorem w_runnable : about1.curStatus? = some .runnable := by decide +kernel
set_option maxRecDepth 65536 in
theorem w_alone : about1.alone = true := by decide +kernel
set_option maxRecDepth 65536 in
theorem w_named : about1.methodNamed? x = some theMethod := by decide +kernel
set_option maxRecDepth 65536 in
theorem w_hears : about1.hears theMethod below0 = true := by decide +kernel
set_option maxRecDepth 65536 in
theorem w_ripe : about1.ripe theMethod args0 below0 = true := by decide +kernel
theorem w_running : about1.status = .running := rfl
set_option maxRecDepth 65536 in
theorem w_room : about1.hasRoom e0.platform room_1 = true :=
  launch0.hasRoom_least _ room_1 (by decide +kernel) (by decide +kernel) (by decide +kernel) (by decide +kernel) (by decide +kernel) (by decide +kernel)
theorem allAtoms_all (ts : List Jvm.Cond) (a : Array Jvm.Value) (st : Jvm.State) : (allAtoms ts).before a st = ts.all (fun c => c.before a st) := by
  induction ts with
  | nil => rfl
  | cons c t ih =>
    show (Jvm.Cond.and c (allAtoms t)).before a st = _
    rw [Jvm.Cond.before_and, ih, List.all_cons]
def words1 : List Jvm.Cond := Jvm.Cond.code x code maxLocals ret :: tables_1
/-- a 'code' word, met by the world's own term for the bytes: nothing is compared byte by byte -/
theorem code_word {y : MethodName} {bytes : ByteArray} {mx : Nat} {rt : Option FieldType} {a : Array Value} {s : State} {m : MethodId} {meth : Method} {c : Code} (h1 : s.methodNamed? y = some m) (h2 : s.vm.method? m = some meth) (h3 : meth.code = some c) (h4 : c.code = bytes)
    (h5 : (c.maxLocals == mx && c.exceptionTable.isEmpty && decide (c.maxStack ≤ mostOperands) && decide (meth.sig.returnType = rt) && !meth.locks && decide (parseMethodDescriptor y.desc = some meth.sig)) = true) : (Jvm.Cond.code y bytes mx rt).before a s = true := by
  simp only [Bool.and_eq_true, beq_iff_eq, Bool.not_eq_true', decide_eq_true_eq] at h5
  obtain ⟨⟨⟨⟨⟨g1, g2⟩, g3⟩, g4⟩, g5⟩, g6⟩ := h5
  simp [Cond.before, Cond.holds, Cond.value, h1, h2, h3, h4, g1, g2, g3, g4, g5, g6]
def isCode : Jvm.Cond → Bool
  | .code _ _ _ _ => true
  | _ => false
theorem all_split {L : List Jvm.Cond} {P : Jvm.Cond → Bool} (h1 : L.all (fun c => isCode c || P c) = true) (h2 : ∀ c ∈ L.filter isCode, P c = true) : L.all P = true := by
  refine List.all_eq_true.mpr fun c hc => ?_
  have h := List.all_eq_true.mp h1 c hc
  rcases Bool.eq_false_or_eq_true (isCode c) with hi | hi
  · exact h2 c (List.mem_filter.mpr ⟨hc, hi⟩)
  · simpa [hi] using h
set_option maxRecDepth 65536 in
theorem w_c0 : (Jvm.Cond.code x code maxLocals ret).before args0 about1 = true := code_word (m := ⟨1, 2⟩) (meth := k1m2) (c := k1c2) (by decide +kernel) rfl rfl rfl (by decide +kernel)
set_option maxRecDepth 65536 in
theorem w_c1 : (Jvm.Cond.code ({ cls := "java/lang/Math", name := "min", desc := "(JJ)J" } : Jvm.MethodName) jdk_29_method_70_code (4 : Nat) (Option.some Jvm.ClassFile.FieldType.long)).before args0 about1 = true := code_word (m := ⟨2, 3⟩) (meth := k2m3) (c := k2c3) (by decide +kernel) rfl rfl rfl (by decide +kernel)
set_option maxRecDepth 65536 in
theorem w_c2 : (Jvm.Cond.code ({ cls := "java/lang/Math", name := "max", desc := "(JJ)J" } : Jvm.MethodName) jdk_29_method_66_code (4 : Nat) (Option.some Jvm.ClassFile.FieldType.long)).before args0 about1 = true := code_word (m := ⟨2, 2⟩) (meth := k2m2) (c := k2c2) (by decide +kernel) rfl rfl rfl (by decide +kernel)
set_option maxRecDepth 65536 in
theorem w_c3 : (Jvm.Cond.code ({ cls := "com/example/gridshift/gridshift/SpaceContainsPinLaw", name := "within", desc := "(JJJ)Z" } : Jvm.MethodName) method_2_code (6 : Nat) (Option.some Jvm.ClassFile.FieldType.boolean)).before args0 about1 = true := code_word (m := ⟨1, 1⟩) (meth := k1m1) (c := k1c1) (by decide +kernel) rfl rfl rfl (by decide +kernel)
set_option maxRecDepth 65536 in
theorem w_c4 : (Jvm.Cond.code ({ cls := "com/example/gridshift/gridshift/Space", name := "<init>", desc := "(DDDD)V" } : Jvm.MethodName) prog_73_method_1_code (9 : Nat) (Option.none : Option Jvm.ClassFile.FieldType)).before args0 about1 = true := code_word (m := ⟨4, 0⟩) (meth := k4m0) (c := k4c0) (by decide +kernel) rfl rfl rfl (by decide +kernel)
set_option maxRecDepth 65536 in
theorem w_c5 : (Jvm.Cond.code ({ cls := "java/lang/Record", name := "<init>", desc := "()V" } : Jvm.MethodName) jdk_30_method_1_code (1 : Nat) (Option.none : Option Jvm.ClassFile.FieldType)).before args0 about1 = true := code_word (m := ⟨3, 0⟩) (meth := k3m0) (c := k3c0) (by decide +kernel) rfl rfl rfl (by decide +kernel)
set_option maxRecDepth 65536 in
theorem w_c6 : (Jvm.Cond.code ({ cls := "java/lang/Object", name := "<init>", desc := "()V" } : Jvm.MethodName) object_method_1_code (1 : Nat) (Option.none : Option Jvm.ClassFile.FieldType)).before args0 about1 = true := code_word (m := ⟨0, 0⟩) (meth := k0m0) (c := k0c0) (by decide +kernel) rfl rfl rfl (by decide +kernel)
set_option maxRecDepth 65536 in
theorem w_c7 : (Jvm.Cond.code ({ cls := "java/lang/Double", name := "isFinite", desc := "(D)Z" } : Jvm.MethodName) jdk_117_method_8_code (2 : Nat) (Option.some Jvm.ClassFile.FieldType.boolean)).before args0 about1 = true := code_word (m := ⟨10, 0⟩) (meth := k10m0) (c := k10c0) (by decide +kernel) rfl rfl rfl (by decide +kernel)
set_option maxRecDepth 65536 in
theorem w_c8 : (Jvm.Cond.code ({ cls := "java/lang/Math", name := "abs", desc := "(D)D" } : Jvm.MethodName) jdk_29_method_64_code (2 : Nat) (Option.some Jvm.ClassFile.FieldType.double)).before args0 about1 = true := code_word (m := ⟨2, 1⟩) (meth := k2m1) (c := k2c1) (by decide +kernel) rfl rfl rfl (by decide +kernel)
set_option maxRecDepth 65536 in
theorem w_c9 : (Jvm.Cond.code ({ cls := "com/example/gridshift/gridshift/Space", name := "contains", desc := "(DD)Z" } : Jvm.MethodName) prog_73_method_3_code (5 : Nat) (Option.some Jvm.ClassFile.FieldType.boolean)).before args0 about1 = true := code_word (m := ⟨4, 1⟩) (meth := k4m1) (c := k4c1) (by decide +kernel) rfl rfl rfl (by decide +kernel)
def codes1 : List Jvm.Cond := [Jvm.Cond.code x code maxLocals ret, Jvm.Cond.code ({ cls := "java/lang/Math", name := "min", desc := "(JJ)J" } : Jvm.MethodName) jdk_29_method_70_code (4 : Nat) (Option.some Jvm.ClassFile.FieldType.long), Jvm.Cond.code ({ cls := "java/lang/Math", name := "max", desc := "(JJ)J" } : Jvm.MethodName) jdk_29_method_66_code (4 : Nat) (Option.some Jvm.ClassFile.FieldType.long), Jvm.Cond.code ({ cls := "com/example/gridshift/gridshift/SpaceContainsPinLaw", name := "within", desc := "(JJJ)Z" } : Jvm.MethodName) method_2_code (6 : Nat) (Option.some Jvm.ClassFile.FieldType.boolean), Jvm.Cond.code ({ cls := "com/example/gridshift/gridshift/Space", name := "<init>", desc := "(DDDD)V" } : Jvm.MethodName) prog_73_method_1_code (9 : Nat) (Option.none : Option Jvm.ClassFile.FieldType), Jvm.Cond.code ({ cls := "java/lang/Record", name := "<init>", desc := "()V" } : Jvm.MethodName) jdk_30_method_1_code (1 : Nat) (Option.none : Option Jvm.ClassFile.FieldType), Jvm.Cond.code ({ cls := "java/lang/Object", name := "<init>", desc := "()V" } : Jvm.MethodName) object_method_1_code (1 : Nat) (Option.none : Option Jvm.ClassFile.FieldType), Jvm.Cond.code ({ cls := "java/lang/Double", name := "isFinite", desc := "(D)Z" } : Jvm.MethodName) jdk_117_method_8_code (2 : Nat) (Option.some Jvm.ClassFile.FieldType.boolean), Jvm.Cond.code ({ cls := "java/lang/Math", name := "abs", desc := "(D)D" } : Jvm.MethodName) jdk_29_method_64_code (2 : Nat) (Option.some Jvm.ClassFile.FieldType.double), Jvm.Cond.code ({ cls := "com/example/gridshift/gridshift/Space", name := "contains", desc := "(DD)Z" } : Jvm.MethodName) prog_73_method_3_code (5 : Nat) (Option.some Jvm.ClassFile.FieldType.boolean)]
set_option maxRecDepth 65536 in
theorem codes_eq : words1.filter isCode = codes1 := rfl
theorem w_codes : ∀ c ∈ words1.filter isCode, c.before args0 about1 = true := by
  rw [codes_eq]
  intro c hc
  simp only [codes1, List.mem_cons, List.not_mem_nil, or_false] at hc
  rcases hc with rfl | rfl | rfl | rfl | rfl | rfl | rfl | rfl | rfl | rfl
  · exact w_c0
  · exact w_c1
  · exact w_c2
  · exact w_c3
  · exact w_c4
  · exact w_c5
  · exact w_c6
  · exact w_c7
  · exact w_c8
  · exact w_c9
set_option maxRecDepth 65536 in
theorem w_t1 : (words1.take 24).all (fun c => isCode c || c.before args0 about1) = true := by decide +kernel
set_option maxRecDepth 65536 in
theorem w_t2 : (words1.drop 24).all (fun c => isCode c || c.before args0 about1) = true := by decide +kernel
theorem w_tables : (allAtoms (Jvm.Cond.code x code maxLocals ret :: tables_1)).before args0 about1 = true := by
  rw [allAtoms_all]
  show words1.all (fun c => c.before args0 about1) = true
  refine all_split ?_ w_codes
  rw [← List.take_append_drop 24 words1, List.all_append, w_t1, w_t2]
  rfl
set_option maxRecDepth 65536 in
theorem w_case : (Jvm.Cond.and given_1 narrow_1).before args0 about1 = true := by decide +kernel
theorem w_applies : (headSpec (Jvm.Cond.code x code maxLocals ret :: tables_1) room_1).applies x e0.platform about1 = true :=
  (Spec.applies_iff w_frames).mpr ⟨w_running, w_runnable, w_alone, w_named, w_hears, w_ripe, w_room, w_tables⟩
theorem atStart : AtStart classFile x code maxLocals ret World_1 tables_1 room_1 Calls_1 rest_1 Pre_1 launch0 p0 e0 about1 theMethod args0 below0 :=
  ⟨lists_1, trivial, launch0.admits_env _ _ _, launch0.least_env, fairChoices_fair.cas, fairChoices_fair.clock, w_frames, w_args, w_heap, w_applies, trivial, trivial, w_case⟩
end start1
theorem witness_1 : WitnessClaimed_1 := ⟨start1.p0, start1.e0, start1.about1, start1.theMethod, start1.args0, start1.below0, start1.atStart⟩
end Jvm.Pilot.@@N@@
