import JvmDerived
import JvmDerived.Pilot.@@N@@Statement
import JvmDerived.Pilot.@@N@@Code
set_option linter.unusedVariables false
set_option linter.unusedSimpArgs false
namespace Jvm.RoadKit
open Sem ClassFile Op Lib Jvm.Stand Jvm.Free Jvm.LawKit
section New
variable {p : Program} {l : Launch} {e : Env} {R : Room} {s : State} {m : MethodId} {args : Array Value} {below : List Frame} {meth : Method} {c : Code} {T : State} {locs : List Loc} {cells slots : Nat}
theorem retI (X : Stand p l e R s m args below meth c T locs cells slots) (hx : p.tables.exec = Jvm.exec) {pc : Nat} {Ls : Array Slot} {z : Int32} {rest : List Value} (hret : meth.sig.returnType = some .int) (hd : decode c.code pc = .ok (.ireturn, 1)) {fs : List Frame}
    (hl : ∀ (f : JFrame) (acts : List Action), f.method = m → f.locked = none → f.entered = [] → (doReturn e (T.setTop f) acts (some (.int z))).1 = T.setFrames fs) : Steps p.tables e below (T.setTop (mkF m pc Ls (.int z :: rest))) (T.setFrames fs) := by
  have hm' : T.vm.method? m = some meth := X.method'
  have hn : narrow .int (.int z) = .int z := rfl
  show Steps p.tables e below (T.setTop { method := m, pc := pc, locals := Ls, stack := _ :: rest, locked := none }) _
  jvm_step X.here [X.here.top, hx, hd, hm', hret, hn]
  first | (intro acts; rw [hl _ acts rfl rfl rfl]) | rw [hl _ _ rfl rfl rfl]
  exact Steps.refl _
/-- from the state A the body comes to its end, and what it leaves is Q's -/
def Go (tb : Tables) (e : Env) (below : List Frame) (s : State) (Q : Option Value → Heap → List Loc → Prop) (k n : Nat) (A : State) : Prop :=
  ∃ s₂ o, Steps tb e below A s₂ ∧ s₂.status = .running ∧ Ended s₂ below o ∧ ∃ v L, o = .returned v ∧ Q v s₂.heap L ∧ FrameEnd s o s₂ L k n
theorem Go.on {tb : Tables} {Q : Option Value → Heap → List Loc → Prop} {k n : Nat} {A B : State} (h : ∀ t, Steps tb e below B t → Steps tb e below A t) (g : Go tb e below s Q k n B) : Go tb e below s Q k n A := by
  obtain ⟨s₂, o, h1, h2⟩ := g
  exact ⟨s₂, o, h _ h1, h2⟩
theorem Go.via {tb : Tables} {Q : Option Value → Heap → List Loc → Prop} {k n : Nat} {A B : State} (h : Steps tb e below A B) (g : Go tb e below s Q k n B) : Go tb e below s Q k n A := by
  obtain ⟨s₂, o, h1, h2⟩ := g
  exact ⟨s₂, o, h.trans h1, h2⟩
theorem Go.retN (X : Stand p l e R s m args below meth c T locs cells slots) (hx : p.tables.exec = Jvm.exec) (hlk : meth.locks = false) {Q : Option Value → Heap → List Loc → Prop} {k n : Nat} {pc : Nat} {Ls : Array Slot} {z : Int32} {t : FieldType} {rest : List Value} (hret : meth.sig.returnType = some t) (ht : t = .boolean ∨ t = .byte ∨ t = .char ∨ t = .short)
    (hd : decode c.code pc = .ok (.ireturn, 1)) (hk : cells ≤ k) (hn : slots ≤ n) {h : Heap} (eT : T.heap = h) (q : Q (some (.int (nar t z))) h locs) : Go p.tables e below s Q k n (T.setTop (mkF m pc Ls (.int z :: rest))) := by
  obtain ⟨fs, hr, hrun, hended, hW, hsame⟩ := X.leave (v := some (.int (nar t z))) (fun h => by rw [hret] at h; cases h) hlk
  subst eT
  exact ⟨_, _, Jvm.RoadKit.retN X hx hret ht hd hr, hrun, hended, _, _, rfl, q, ⟨_, rfl⟩, hW, hsame.mono hk hn⟩
theorem Go.retI (X : Stand p l e R s m args below meth c T locs cells slots) (hx : p.tables.exec = Jvm.exec) (hlk : meth.locks = false) {Q : Option Value → Heap → List Loc → Prop} {k n : Nat} {pc : Nat} {Ls : Array Slot} {z : Int32} {rest : List Value} (hret : meth.sig.returnType = some .int)
    (hd : decode c.code pc = .ok (.ireturn, 1)) (hk : cells ≤ k) (hn : slots ≤ n) {h : Heap} (eT : T.heap = h) (q : Q (some (.int z)) h locs) : Go p.tables e below s Q k n (T.setTop (mkF m pc Ls (.int z :: rest))) := by
  obtain ⟨fs, hr, hrun, hended, hW, hsame⟩ := X.leave (v := some (.int z)) (fun h => by rw [hret] at h; cases h) hlk
  subst eT
  exact ⟨_, _, Jvm.RoadKit.retI X hx hret hd hr, hrun, hended, _, _, rfl, q, ⟨_, rfl⟩, hW, hsame.mono hk hn⟩
theorem Go.retJ (X : Stand p l e R s m args below meth c T locs cells slots) (hx : p.tables.exec = Jvm.exec) (hlk : meth.locks = false) {Q : Option Value → Heap → List Loc → Prop} {k n : Nat} {pc : Nat} {Ls : Array Slot} {z : Int64} (hret : meth.sig.returnType = some .long)
    (hd : decode c.code pc = .ok (.lreturn, 1)) (hk : cells ≤ k) (hn : slots ≤ n) {h : Heap} (eT : T.heap = h) (q : Q (some (.long z)) h locs) : Go p.tables e below s Q k n (T.setTop (mkF m pc Ls [.long z])) := by
  obtain ⟨fs, hr, hrun, hended, hW, hsame⟩ := X.leave (v := some (.long z)) (fun h => by rw [hret] at h; cases h) hlk
  subst eT
  exact ⟨_, _, X.lreturnOut hx hret hd hr, hrun, hended, _, _, rfl, q, ⟨_, rfl⟩, hW, hsame.mono hk hn⟩
theorem Go.retA (X : Stand p l e R s m args below meth c T locs cells slots) (hx : p.tables.exec = Jvm.exec) (hlk : meth.locks = false) {Q : Option Value → Heap → List Loc → Prop} {k n : Nat} {pc : Nat} {Ls : Array Slot} {w : Value} {t : FieldType} (hw : w.isRef = true) (hret : meth.sig.returnType = some t) (ht : t.isReference = true)
    (hd : decode c.code pc = .ok (.areturn, 1)) (hk : cells ≤ k) (hn : slots ≤ n) {h : Heap} (eT : T.heap = h) (q : Q (some w) h locs) : Go p.tables e below s Q k n (T.setTop (mkF m pc Ls [w])) := by
  obtain ⟨fs, hr, hrun, hended, hW, hsame⟩ := X.leave (v := some w) (fun h => by rw [hret] at h; cases h) hlk
  subst eT
  exact ⟨_, _, X.areturnOut hx hw hret ht hd hr, hrun, hended, _, _, rfl, q, ⟨_, rfl⟩, hW, hsame.mono hk hn⟩
theorem Go.retV (X : Stand p l e R s m args below meth c T locs cells slots) (hx : p.tables.exec = Jvm.exec) (hlk : meth.locks = false) {Q : Option Value → Heap → List Loc → Prop} {k n : Nat} {pc : Nat} {Ls : Array Slot} (hret : meth.sig.returnType = none)
    (hd : decode c.code pc = .ok (.return_, 1)) (hk : cells ≤ k) (hn : slots ≤ n) {h : Heap} (eT : T.heap = h) (q : Q none h locs) : Go p.tables e below s Q k n (T.setTop (mkF m pc Ls [])) := by
  obtain ⟨fs, hr, hrun, hended, hW, hsame⟩ := X.leave (v := none) (fun _ => rfl) hlk
  subst eT
  exact ⟨_, _, X.returnOut hx hret hd hr, hrun, hended, _, _, rfl, q, ⟨_, rfl⟩, hW, hsame.mono hk hn⟩
end New
end Jvm.RoadKit
namespace Jvm.Pilot.@@N@@
open Jvm Jvm.ClassFile Sem Op Lib Jvm.Free Jvm.Stand Jvm.LawKit Jvm.RoadKit Bundle Jvm.Pilot.@@N@@.Jvm.D

def own_b (P : Prop) [Decidable P] : Int32 := if P then 1 else 0
theorem own_b0 {P : Prop} [Decidable P] (h : own_b P = 0) : ¬ P := fun q => by rw [own_b, if_pos q] at h; cases h
theorem own_b1 {P : Prop} [Decidable P] (h : ¬ own_b P = 0) : P := Decidable.byContradiction fun q => h (by rw [own_b, if_neg q])
theorem own_bt {P : Prop} [Decidable P] (h : P) : own_b P = 1 := by rw [own_b, if_pos h]
theorem own_bf {P : Prop} [Decidable P] (h : ¬ P) : own_b P = 0 := by rw [own_b, if_neg h]

theorem own_static {args : Array Value} {s : State} {C n d K : String} (hx : (Jvm.Cond.exactly (Term.static C n d) K).value args s none s [] = some true) (hi : (Jvm.Cond.initialized C).before args s = true) (hl : (Jvm.Cond.laysStatic C n d).before args s = true) :
    ∃ a, Sta s s.heap C n d (.ref a) ∧ Exa s s.heap a K ∧ (Term.static C n d).eval args s none [] s = some (.ref a) := by
  obtain ⟨a, ev⟩ := exa_v hx
  exact ⟨a, Sta.start ev (Or.inr ⟨hi, hl⟩), Exa.start ev hx, ev⟩
theorem own_ord {args : Array Value} {s : State} {t : Term} {C n d : String} {a : Addr} {k : Int32} (ev : t.eval args s none [] s = some (.ref a)) (h : (Jvm.Cond.eq (Term.field t C n d) (Term.int k)).value args s none s [] = some true) : Fld s s.heap a C n d (.int k) := by
  obtain ⟨x, y, e1, e2, k1, k2⟩ := cmp_v (Or.inl h)
  have e3 : y = .int k := (Option.some.inj e2).symm
  subst e3
  obtain ⟨z, rfl⟩ := k2
  have e4 : z = k := by simpa [Cond.value, e1, e2] using h
  subst e4
  exact Fld.start (by rw [← fld_at ev]; exact e1)

theorem d1_0 : decode prog_13_method_6_code 0 = .ok (.aload_n 0, 1) := by decide +kernel
theorem d1_1 : decode prog_13_method_6_code 1 = .ok (.getstatic 19, 3) := by decide +kernel
theorem d1_4 : decode prog_13_method_6_code 4 = .ok (.if_acmp .eq 28, 3) := by decide +kernel
theorem d1_7 : decode prog_13_method_6_code 7 = .ok (.aload_n 0, 1) := by decide +kernel
theorem d1_8 : decode prog_13_method_6_code 8 = .ok (.getstatic 22, 3) := by decide +kernel
theorem d1_11 : decode prog_13_method_6_code 11 = .ok (.if_acmp .eq 21, 3) := by decide +kernel
theorem d1_14 : decode prog_13_method_6_code 14 = .ok (.aload_n 0, 1) := by decide +kernel
theorem d1_15 : decode prog_13_method_6_code 15 = .ok (.getstatic 25, 3) := by decide +kernel
theorem d1_18 : decode prog_13_method_6_code 18 = .ok (.if_acmp .eq 14, 3) := by decide +kernel
theorem d1_21 : decode prog_13_method_6_code 21 = .ok (.aload_n 0, 1) := by decide +kernel
theorem d1_22 : decode prog_13_method_6_code 22 = .ok (.getstatic 28, 3) := by decide +kernel
theorem d1_25 : decode prog_13_method_6_code 25 = .ok (.if_acmp .eq 7, 3) := by decide +kernel
theorem d1_28 : decode prog_13_method_6_code 28 = .ok (.iconst 1, 1) := by decide +kernel
theorem d1_29 : decode prog_13_method_6_code 29 = .ok (.goto 4, 3) := by decide +kernel
theorem d1_32 : decode prog_13_method_6_code 32 = .ok (.iconst 0, 1) := by decide +kernel
theorem d1_33 : decode prog_13_method_6_code 33 = .ok (.ireturn, 1) := by decide +kernel
theorem pd__40__41_Z : parseMethodDescriptor "()Z" = some ⟨[], some .boolean⟩ := by decide +kernel
theorem ef_1 (m : MethodId) (x0 : Addr) : entryFrame m #[(.ref x0)] 1 = mkF m 0 #[.val (.ref x0)] [] := by first | (simp [entryFrame, mkF, argsToLocals, Value.category]; done) | rfl
def Q1 (Z : State) (a1 : Addr) (s5 : Addr) (s6 : Addr) (s7 : Addr) (s8 : Addr) (h0 : Heap) (n0 : Nat) (v : Option Value) (h : Heap) (L : List Loc) : Prop := v = some (.int (own_b (¬ a1 = s5 ∧ ¬ a1 = s6 ∧ ¬ a1 = s7 ∧ ¬ a1 = s8))) ∧ Fr n0 L ∧ h = h0
theorem pn_com_example_tidewell_tidewell_engine_Aggregate_Function : plainName "com/example/tidewell/tidewell/engine/Aggregate$Function" = true := by first | (simp [plainName, overriddenIn]; done) | decide +kernel
set_option maxRecDepth 65536 in
set_option maxHeartbeats 40000000 in
theorem rm1 (l : Launch) (Z : State) (a0 : Array Value) (hw : ∀ d ∈ tables_1, d.before a0 Z = true) (ws : List Jvm.Cond) (a1 : Addr) (s5 : Addr) (s6 : Addr) (s7 : Addr) (s8 : Addr) (h0 : Heap) (n0 : Nat) (Z0 : n0 ≤ h0.size) (Sta_FIRST : Sta Z h0 "com/example/tidewell/tidewell/engine/Aggregate$Function" "FIRST" "Lcom/example/tidewell/tidewell/engine/Aggregate$Function;" (.ref s5)) (Sta_LAST : Sta Z h0 "com/example/tidewell/tidewell/engine/Aggregate$Function" "LAST" "Lcom/example/tidewell/tidewell/engine/Aggregate$Function;" (.ref s6)) (Sta_MIN_TIME : Sta Z h0 "com/example/tidewell/tidewell/engine/Aggregate$Function" "MIN_TIME" "Lcom/example/tidewell/tidewell/engine/Aggregate$Function;" (.ref s7)) (Sta_MAX_TIME : Sta Z h0 "com/example/tidewell/tidewell/engine/Aggregate$Function" "MAX_TIME" "Lcom/example/tidewell/tidewell/engine/Aggregate$Function;" (.ref s8)) :
    MetFree l (⟨"com/example/tidewell/tidewell/engine/Aggregate$Function", "takesDistinct", "()Z"⟩ : MethodName) (head1 (Jvm.Cond.code (⟨"com/example/tidewell/tidewell/engine/Aggregate$Function", "takesDistinct", "()Z"⟩ : MethodName) prog_13_method_6_code 1 (some .boolean) :: ws) ({ frames := 0, cells := 0, slots := 0, locals := 0 } : Room)) (fun a U => a = #[(.ref a1)] ∧ Z.Warmed39 U.vm ∧ U.heap = h0) (fun _ _ _ _ _ => True) (fun _ U o U' => ∃ v L, o = .returned v ∧ Q1 Z a1 s5 s6 s7 s8 h0 n0 v U'.heap L ∧ FrameEnd U o U' L ({ frames := 0, cells := 0, slots := 0, locals := 0 } : Room).cells ({ frames := 0, cells := 0, slots := 0, locals := 0 } : Room).slots) := by
  refine MetFree.of_bodySF (plainFor_of_name pn_com_example_tidewell_tidewell_engine_Aggregate_Function) hisR ?_
  intro p e s m args below meth c s₁ Bd hml0 hP hK
  obtain ⟨rfl, hZ, hh⟩ := hP
  have hx := Bd.exec
  have hby := Bd.bytes
  have hlk : meth.locks = false := BodyLoose.notSynchronized Bd
  have hml : c.maxLocals = 1 := hml0
  have hown : s.vm.findClass "com/example/tidewell/tidewell/engine/Aggregate$Function" = some m.cls := findClass_of_methodNamed Bd.named
  have hnm := (name_of_methodNamed Bd.named Bd.method).1
  have X0 : Stand p l e ({ frames := 0, cells := 0, slots := 0, locals := 0 } : Room) s m #[(.ref a1)] below meth c s₁ [] 0 0 := Stand.of_body Bd
  have e0 : s₁.heap = h0 := by rw [← hh, Bd.state]; rfl
  have N0 := Fr.nil n0
  show Go p.tables e below s (Q1 Z a1 s5 s6 s7 s8 h0 n0) ({ frames := 0, cells := 0, slots := 0, locals := 0 } : Room).cells ({ frames := 0, cells := 0, slots := 0, locals := 0 } : Room).slots (s₁.setTop (entryFrame m #[(.ref a1)] 1))
  refine Go.on (fun t k => castTop (ef_1 m a1) k) ?_
  show Go p.tables e below s _ _ _ (s₁.setTop (mkF m 0 #[.val (.ref a1)] []))
  refine Go.on (fun t k => XS.aloadN X0.here hx rfl (hb hby d1_0) rfl rfl k) ?_
  show Go p.tables e below s _ _ _ (s₁.setTop (mkF m 1 #[.val (.ref a1)] [(.ref a1)]))
  obtain ⟨T1, X1, e1, st1⟩ := getS2 X0 hx hZ hown (host := "") (Or.inl (hw _ (List.mem_of_getElem? (i := 9) rfl))) Via.refl e0 Sta_FIRST (g := (mkF m 1 #[.val (.ref a1)] [(.ref a1)])) rfl (hb hby d1_1)
  refine Go.on st1 ?_
  show Go p.tables e below s _ _ _ (T1.setTop (mkF m 4 #[.val (.ref a1)] [(.ref s5), (.ref a1)]))
  by_cases hc4_2 : a1 = s5
  · refine Go.on (fun t k => Jvm.RoadKit.acmp (g := (mkF m 4 #[.val (.ref a1)] [(.ref s5), (.ref a1)])) X1 hx rfl rfl rfl (pc0 := 4) (pc' := 32) (same := true) rfl (hb hby d1_4) rfl (decide_eq_true (congrArg Value.ref hc4_2)) (by decide) (by decide) k) ?_
    show Go p.tables e below s _ _ _ (T1.setTop (mkF m 32 #[.val (.ref a1)] []))
    refine Go.on (fun t k => XS.iconst X1.here hx rfl (hb hby d1_32) k) ?_
    show Go p.tables e below s _ _ _ (T1.setTop (mkF m 33 #[.val (.ref a1)] [(.int (0 : Int32))]))
    refine Go.retN X1 hx hlk (t := .boolean) Bd.returns (by simp) (hb hby d1_33) (by decide) (by decide) e1 ?_
    exact ⟨(by rw [own_bf (fun q => q.1 hc4_2)]; rfl), N0, rfl⟩
  · refine Go.on (fun t k => Jvm.RoadKit.acmp (g := (mkF m 4 #[.val (.ref a1)] [(.ref s5), (.ref a1)])) X1 hx rfl rfl rfl (pc0 := 4) (pc' := 7) (same := false) rfl (hb hby d1_4) rfl (decide_eq_false fun q => hc4_2 (Value.ref.inj q)) (by decide) (by decide) k) ?_
    show Go p.tables e below s _ _ _ (T1.setTop (mkF m 7 #[.val (.ref a1)] []))
    refine Go.on (fun t k => XS.aloadN X1.here hx rfl (hb hby d1_7) rfl rfl k) ?_
    show Go p.tables e below s _ _ _ (T1.setTop (mkF m 8 #[.val (.ref a1)] [(.ref a1)]))
    obtain ⟨T3, X3, e3, st3⟩ := getS2 X1 hx hZ hown (host := "") (Or.inl (hw _ (List.mem_of_getElem? (i := 11) rfl))) Via.refl e1 Sta_LAST (g := (mkF m 8 #[.val (.ref a1)] [(.ref a1)])) rfl (hb hby d1_8)
    refine Go.on st3 ?_
    show Go p.tables e below s _ _ _ (T3.setTop (mkF m 11 #[.val (.ref a1)] [(.ref s6), (.ref a1)]))
    by_cases hc11_4 : a1 = s6
    · refine Go.on (fun t k => Jvm.RoadKit.acmp (g := (mkF m 11 #[.val (.ref a1)] [(.ref s6), (.ref a1)])) X3 hx rfl rfl rfl (pc0 := 11) (pc' := 32) (same := true) rfl (hb hby d1_11) rfl (decide_eq_true (congrArg Value.ref hc11_4)) (by decide) (by decide) k) ?_
      show Go p.tables e below s _ _ _ (T3.setTop (mkF m 32 #[.val (.ref a1)] []))
      refine Go.on (fun t k => XS.iconst X3.here hx rfl (hb hby d1_32) k) ?_
      show Go p.tables e below s _ _ _ (T3.setTop (mkF m 33 #[.val (.ref a1)] [(.int (0 : Int32))]))
      refine Go.retN X3 hx hlk (t := .boolean) Bd.returns (by simp) (hb hby d1_33) (by decide) (by decide) e3 ?_
      exact ⟨(by rw [own_bf (fun q => q.2.1 hc11_4)]; rfl), N0, rfl⟩
    · refine Go.on (fun t k => Jvm.RoadKit.acmp (g := (mkF m 11 #[.val (.ref a1)] [(.ref s6), (.ref a1)])) X3 hx rfl rfl rfl (pc0 := 11) (pc' := 14) (same := false) rfl (hb hby d1_11) rfl (decide_eq_false fun q => hc11_4 (Value.ref.inj q)) (by decide) (by decide) k) ?_
      show Go p.tables e below s _ _ _ (T3.setTop (mkF m 14 #[.val (.ref a1)] []))
      refine Go.on (fun t k => XS.aloadN X3.here hx rfl (hb hby d1_14) rfl rfl k) ?_
      show Go p.tables e below s _ _ _ (T3.setTop (mkF m 15 #[.val (.ref a1)] [(.ref a1)]))
      obtain ⟨T5, X5, e5, st5⟩ := getS2 X3 hx hZ hown (host := "") (Or.inl (hw _ (List.mem_of_getElem? (i := 13) rfl))) Via.refl e3 Sta_MIN_TIME (g := (mkF m 15 #[.val (.ref a1)] [(.ref a1)])) rfl (hb hby d1_15)
      refine Go.on st5 ?_
      show Go p.tables e below s _ _ _ (T5.setTop (mkF m 18 #[.val (.ref a1)] [(.ref s7), (.ref a1)]))
      by_cases hc18_6 : a1 = s7
      · refine Go.on (fun t k => Jvm.RoadKit.acmp (g := (mkF m 18 #[.val (.ref a1)] [(.ref s7), (.ref a1)])) X5 hx rfl rfl rfl (pc0 := 18) (pc' := 32) (same := true) rfl (hb hby d1_18) rfl (decide_eq_true (congrArg Value.ref hc18_6)) (by decide) (by decide) k) ?_
        show Go p.tables e below s _ _ _ (T5.setTop (mkF m 32 #[.val (.ref a1)] []))
        refine Go.on (fun t k => XS.iconst X5.here hx rfl (hb hby d1_32) k) ?_
        show Go p.tables e below s _ _ _ (T5.setTop (mkF m 33 #[.val (.ref a1)] [(.int (0 : Int32))]))
        refine Go.retN X5 hx hlk (t := .boolean) Bd.returns (by simp) (hb hby d1_33) (by decide) (by decide) e5 ?_
        exact ⟨(by rw [own_bf (fun q => q.2.2.1 hc18_6)]; rfl), N0, rfl⟩
      · refine Go.on (fun t k => Jvm.RoadKit.acmp (g := (mkF m 18 #[.val (.ref a1)] [(.ref s7), (.ref a1)])) X5 hx rfl rfl rfl (pc0 := 18) (pc' := 21) (same := false) rfl (hb hby d1_18) rfl (decide_eq_false fun q => hc18_6 (Value.ref.inj q)) (by decide) (by decide) k) ?_
        show Go p.tables e below s _ _ _ (T5.setTop (mkF m 21 #[.val (.ref a1)] []))
        refine Go.on (fun t k => XS.aloadN X5.here hx rfl (hb hby d1_21) rfl rfl k) ?_
        show Go p.tables e below s _ _ _ (T5.setTop (mkF m 22 #[.val (.ref a1)] [(.ref a1)]))
        obtain ⟨T7, X7, e7, st7⟩ := getS2 X5 hx hZ hown (host := "") (Or.inl (hw _ (List.mem_of_getElem? (i := 15) rfl))) Via.refl e5 Sta_MAX_TIME (g := (mkF m 22 #[.val (.ref a1)] [(.ref a1)])) rfl (hb hby d1_22)
        refine Go.on st7 ?_
        show Go p.tables e below s _ _ _ (T7.setTop (mkF m 25 #[.val (.ref a1)] [(.ref s8), (.ref a1)]))
        by_cases hc25_8 : a1 = s8
        · refine Go.on (fun t k => Jvm.RoadKit.acmp (g := (mkF m 25 #[.val (.ref a1)] [(.ref s8), (.ref a1)])) X7 hx rfl rfl rfl (pc0 := 25) (pc' := 32) (same := true) rfl (hb hby d1_25) rfl (decide_eq_true (congrArg Value.ref hc25_8)) (by decide) (by decide) k) ?_
          show Go p.tables e below s _ _ _ (T7.setTop (mkF m 32 #[.val (.ref a1)] []))
          refine Go.on (fun t k => XS.iconst X7.here hx rfl (hb hby d1_32) k) ?_
          show Go p.tables e below s _ _ _ (T7.setTop (mkF m 33 #[.val (.ref a1)] [(.int (0 : Int32))]))
          refine Go.retN X7 hx hlk (t := .boolean) Bd.returns (by simp) (hb hby d1_33) (by decide) (by decide) e7 ?_
          exact ⟨(by rw [own_bf (fun q => q.2.2.2 hc25_8)]; rfl), N0, rfl⟩
        · refine Go.on (fun t k => Jvm.RoadKit.acmp (g := (mkF m 25 #[.val (.ref a1)] [(.ref s8), (.ref a1)])) X7 hx rfl rfl rfl (pc0 := 25) (pc' := 28) (same := false) rfl (hb hby d1_25) rfl (decide_eq_false fun q => hc25_8 (Value.ref.inj q)) (by decide) (by decide) k) ?_
          show Go p.tables e below s _ _ _ (T7.setTop (mkF m 28 #[.val (.ref a1)] []))
          refine Go.on (fun t k => XS.iconst X7.here hx rfl (hb hby d1_28) k) ?_
          show Go p.tables e below s _ _ _ (T7.setTop (mkF m 29 #[.val (.ref a1)] [(.int (1 : Int32))]))
          refine Go.on (fun t k => XS.goto X7.here hx rfl (pc0 := 29) (pc' := 33) rfl (hb hby d1_29) (by decide) (by decide) k) ?_
          show Go p.tables e below s _ _ _ (T7.setTop (mkF m 33 #[.val (.ref a1)] [(.int (1 : Int32))]))
          refine Go.retN X7 hx hlk (t := .boolean) Bd.returns (by simp) (hb hby d1_33) (by decide) (by decide) e7 ?_
          exact ⟨(by rw [own_bt ⟨hc4_2, hc11_4, hc18_6, hc25_8⟩]; rfl), N0, rfl⟩
theorem ef_0 (m : MethodId) (x0 : Int32) : entryFrame m #[(.int x0)] maxLocals = mkF m 0 #[.val (.int x0), .unset, .unset, .unset] [] := by first | (simp [entryFrame, mkF, argsToLocals, Value.category, maxLocals]; done) | rfl
def Q0 (Z : State) (p1 : Int32) (s0 : Addr) (s1 : Addr) (s2 : Addr) (s3 : Addr) (s4 : Addr) (s5 : Addr) (s6 : Addr) (s7 : Addr) (s8 : Addr) (s9 : Addr) (h0 : Heap) (n0 : Nat) (v : Option Value) (h : Heap) (L : List Loc) : Prop := v = some (.int (1 : Int32)) ∧ Fr n0 L
theorem pn_com_example_tidewell_tidewell_engine_FunctionTakesDistinctPinLaw : plainName "com/example/tidewell/tidewell/engine/FunctionTakesDistinctPinLaw" = true := by first | (simp [plainName, overriddenIn]; done) | decide +kernel
set_option maxRecDepth 65536 in
set_option maxHeartbeats 40000000 in
theorem rm0 (l : Launch) (Z : State) (a0 : Array Value) (hw : ∀ d ∈ tables_1, d.before a0 Z = true) (ws : List Jvm.Cond) (p1 : Int32) (s0 : Addr) (s1 : Addr) (s2 : Addr) (s3 : Addr) (s4 : Addr) (s5 : Addr) (s6 : Addr) (s7 : Addr) (s8 : Addr) (s9 : Addr) (h0 : Heap) (n0 : Nat) (Z0 : n0 ≤ h0.size) (Sta_COUNT : Sta Z h0 "com/example/tidewell/tidewell/engine/Aggregate$Function" "COUNT" "Lcom/example/tidewell/tidewell/engine/Aggregate$Function;" (.ref s0)) (Sta_SUM : Sta Z h0 "com/example/tidewell/tidewell/engine/Aggregate$Function" "SUM" "Lcom/example/tidewell/tidewell/engine/Aggregate$Function;" (.ref s1)) (Sta_AVG : Sta Z h0 "com/example/tidewell/tidewell/engine/Aggregate$Function" "AVG" "Lcom/example/tidewell/tidewell/engine/Aggregate$Function;" (.ref s2)) (Sta_MIN : Sta Z h0 "com/example/tidewell/tidewell/engine/Aggregate$Function" "MIN" "Lcom/example/tidewell/tidewell/engine/Aggregate$Function;" (.ref s3)) (Sta_MAX : Sta Z h0 "com/example/tidewell/tidewell/engine/Aggregate$Function" "MAX" "Lcom/example/tidewell/tidewell/engine/Aggregate$Function;" (.ref s4)) (Sta_FIRST : Sta Z h0 "com/example/tidewell/tidewell/engine/Aggregate$Function" "FIRST" "Lcom/example/tidewell/tidewell/engine/Aggregate$Function;" (.ref s5)) (Sta_LAST : Sta Z h0 "com/example/tidewell/tidewell/engine/Aggregate$Function" "LAST" "Lcom/example/tidewell/tidewell/engine/Aggregate$Function;" (.ref s6)) (Sta_MIN_TIME : Sta Z h0 "com/example/tidewell/tidewell/engine/Aggregate$Function" "MIN_TIME" "Lcom/example/tidewell/tidewell/engine/Aggregate$Function;" (.ref s7)) (Sta_MAX_TIME : Sta Z h0 "com/example/tidewell/tidewell/engine/Aggregate$Function" "MAX_TIME" "Lcom/example/tidewell/tidewell/engine/Aggregate$Function;" (.ref s8)) (Sta_EXTREME : Sta Z h0 "com/example/tidewell/tidewell/engine/Aggregate$Function" "EXTREME" "Lcom/example/tidewell/tidewell/engine/Aggregate$Function;" (.ref s9)) (E_s0 : Exa Z h0 s0 "com/example/tidewell/tidewell/engine/Aggregate$Function") (E_s1 : Exa Z h0 s1 "com/example/tidewell/tidewell/engine/Aggregate$Function") (E_s2 : Exa Z h0 s2 "com/example/tidewell/tidewell/engine/Aggregate$Function") (E_s3 : Exa Z h0 s3 "com/example/tidewell/tidewell/engine/Aggregate$Function") (E_s4 : Exa Z h0 s4 "com/example/tidewell/tidewell/engine/Aggregate$Function") (E_s5 : Exa Z h0 s5 "com/example/tidewell/tidewell/engine/Aggregate$Function") (E_s6 : Exa Z h0 s6 "com/example/tidewell/tidewell/engine/Aggregate$Function") (E_s7 : Exa Z h0 s7 "com/example/tidewell/tidewell/engine/Aggregate$Function") (E_s8 : Exa Z h0 s8 "com/example/tidewell/tidewell/engine/Aggregate$Function") (E_s9 : Exa Z h0 s9 "com/example/tidewell/tidewell/engine/Aggregate$Function") (F_ordinal_s0 : Fld Z h0 s0 "java/lang/Enum" "ordinal" "I" (.int (0 : Int32))) (F_ordinal_s1 : Fld Z h0 s1 "java/lang/Enum" "ordinal" "I" (.int (1 : Int32))) (F_ordinal_s2 : Fld Z h0 s2 "java/lang/Enum" "ordinal" "I" (.int (2 : Int32))) (F_ordinal_s3 : Fld Z h0 s3 "java/lang/Enum" "ordinal" "I" (.int (3 : Int32))) (F_ordinal_s4 : Fld Z h0 s4 "java/lang/Enum" "ordinal" "I" (.int (4 : Int32))) (F_ordinal_s5 : Fld Z h0 s5 "java/lang/Enum" "ordinal" "I" (.int (5 : Int32))) (F_ordinal_s6 : Fld Z h0 s6 "java/lang/Enum" "ordinal" "I" (.int (6 : Int32))) (F_ordinal_s7 : Fld Z h0 s7 "java/lang/Enum" "ordinal" "I" (.int (7 : Int32))) (F_ordinal_s8 : Fld Z h0 s8 "java/lang/Enum" "ordinal" "I" (.int (8 : Int32))) (F_ordinal_s9 : Fld Z h0 s9 "java/lang/Enum" "ordinal" "I" (.int (9 : Int32))) :
    MetFree l x (head1 (Jvm.Cond.code x code maxLocals ret :: ws) room_1) (fun a U => a = #[(.int p1)] ∧ Z.Warmed39 U.vm ∧ U.heap = h0) (fun _ _ _ _ _ => True) (fun _ U o U' => ∃ v L, o = .returned v ∧ Q0 Z p1 s0 s1 s2 s3 s4 s5 s6 s7 s8 s9 h0 n0 v U'.heap L ∧ FrameEnd U o U' L room_1.cells room_1.slots) := by
  refine MetFree.of_bodySF (plainFor_of_name pn_com_example_tidewell_tidewell_engine_FunctionTakesDistinctPinLaw) hisR ?_
  intro p e s m args below meth c s₁ Bd hml0 hP hK
  obtain ⟨rfl, hZ, hh⟩ := hP
  have hx := Bd.exec
  have hby := Bd.bytes
  have hlk : meth.locks = false := BodyLoose.notSynchronized Bd
  have hml : c.maxLocals = 4 := hml0
  have hown : s.vm.findClass "com/example/tidewell/tidewell/engine/FunctionTakesDistinctPinLaw" = some m.cls := findClass_of_methodNamed Bd.named
  have hnm := (name_of_methodNamed Bd.named Bd.method).1
  have X0 : Stand p l e room_1 s m #[(.int p1)] below meth c s₁ [] 0 0 := Stand.of_body Bd
  have e0 : s₁.heap = h0 := by rw [← hh, Bd.state]; rfl
  have N0 := Fr.nil n0
  show Go p.tables e below s (Q0 Z p1 s0 s1 s2 s3 s4 s5 s6 s7 s8 s9 h0 n0) room_1.cells room_1.slots (s₁.setTop (entryFrame m #[(.int p1)] maxLocals))
  refine Go.on (fun t k => castTop (ef_0 m p1) k) ?_
  show Go p.tables e below s _ _ _ (s₁.setTop (mkF m 0 #[.val (.int p1), .unset, .unset, .unset] []))
  refine Go.on (fun t k => XS.iloadN X0.here hx rfl (hb hby at_0) rfl k) ?_
  show Go p.tables e below s _ _ _ (s₁.setTop (mkF m 1 #[.val (.int p1), .unset, .unset, .unset] [(.int p1)]))
  refine Go.on (fun t k => X0.ldcInt hx hown (mvT hZ (hw _ (List.mem_of_getElem? (i := 0) rfl))) (g := (mkF m 1 #[.val (.int p1), .unset, .unset, .unset] [(.int p1)])) rfl (hb hby at_1) t k) ?_
  show Go p.tables e below s _ _ _ (s₁.setTop (mkF m 3 #[.val (.int p1), .unset, .unset, .unset] [(.int (2147483647 : Int32)), (.int p1)]))
  refine Go.on (fun t k => XS.iand X0.here hx rfl (hb hby at_3) rfl k) ?_
  show Go p.tables e below s _ _ _ (s₁.setTop (mkF m 4 #[.val (.int p1), .unset, .unset, .unset] [(.int (p1 &&& (2147483647 : Int32)))]))
  refine Go.on (fun t k => XS.bipush X0.here hx rfl (hb hby at_4) k) ?_
  show Go p.tables e below s _ _ _ (s₁.setTop (mkF m 6 #[.val (.int p1), .unset, .unset, .unset] [(.int (10 : Int32)), (.int (p1 &&& (2147483647 : Int32)))]))
  refine Go.on (fun t k => Jvm.RoadKit.iremM X0 hx rfl (hb hby at_6) rfl (by decide) k) ?_
  show Go p.tables e below s _ _ _ (s₁.setTop (mkF m 7 #[.val (.int p1), .unset, .unset, .unset] [(.int ((p1 &&& (2147483647 : Int32)) % (10 : Int32)))]))
  refine Go.on (fun t k => XS.istoreN X0.here hx rfl (hb hby at_7) rfl (l' := #[.val (.int p1), .val (.int ((p1 &&& (2147483647 : Int32)) % (10 : Int32))), .unset, .unset]) rfl k) ?_
  show Go p.tables e below s _ _ _ (s₁.setTop (mkF m 8 #[.val (.int p1), .val (.int ((p1 &&& (2147483647 : Int32)) % (10 : Int32))), .unset, .unset] []))
  refine Go.on (fun t k => XS.iloadN X0.here hx rfl (hb hby at_8) rfl k) ?_
  show Go p.tables e below s _ _ _ (s₁.setTop (mkF m 9 #[.val (.int p1), .val (.int ((p1 &&& (2147483647 : Int32)) % (10 : Int32))), .unset, .unset] [(.int ((p1 &&& (2147483647 : Int32)) % (10 : Int32)))]))
  by_cases hc9_1 : ((p1 &&& (2147483647 : Int32)) % (10 : Int32)) = (0 : Int32)
  · refine Go.on (fun t k => XS.ifNo X0.here hx rfl (hb hby at_9) rfl ((if0 _ _).trans (teq hc9_1).2) k) ?_
    show Go p.tables e below s _ _ _ (s₁.setTop (mkF m 12 #[.val (.int p1), .val (.int ((p1 &&& (2147483647 : Int32)) % (10 : Int32))), .unset, .unset] []))
    obtain ⟨T2, X2, e2, st2⟩ := getS2 X0 hx hZ hown (host := "") (Or.inl (hw _ (List.mem_of_getElem? (i := 1) rfl))) Via.refl e0 Sta_COUNT (g := (mkF m 12 #[.val (.int p1), .val (.int ((p1 &&& (2147483647 : Int32)) % (10 : Int32))), .unset, .unset] [])) rfl (hb hby at_12)
    refine Go.on st2 ?_
    show Go p.tables e below s _ _ _ (T2.setTop (mkF m 15 #[.val (.int p1), .val (.int ((p1 &&& (2147483647 : Int32)) % (10 : Int32))), .unset, .unset] [(.ref s0)]))
    refine Go.on (fun t k => XS.astoreN X2.here hx rfl (hb hby at_15) rfl rfl (l' := #[.val (.int p1), .val (.int ((p1 &&& (2147483647 : Int32)) % (10 : Int32))), .val (.ref s0), .unset]) rfl k) ?_
    show Go p.tables e below s _ _ _ (T2.setTop (mkF m 16 #[.val (.int p1), .val (.int ((p1 &&& (2147483647 : Int32)) % (10 : Int32))), .val (.ref s0), .unset] []))
    refine Go.on (fun t k => XS.iconst X2.here hx rfl (hb hby at_16) k) ?_
    show Go p.tables e below s _ _ _ (T2.setTop (mkF m 17 #[.val (.int p1), .val (.int ((p1 &&& (2147483647 : Int32)) % (10 : Int32))), .val (.ref s0), .unset] [(.int (0 : Int32))]))
    refine Go.on (fun t k => XS.istoreN X2.here hx rfl (hb hby at_17) rfl (l' := #[.val (.int p1), .val (.int ((p1 &&& (2147483647 : Int32)) % (10 : Int32))), .val (.ref s0), .val (.int (0 : Int32))]) rfl k) ?_
    show Go p.tables e below s _ _ _ (T2.setTop (mkF m 18 #[.val (.int p1), .val (.int ((p1 &&& (2147483647 : Int32)) % (10 : Int32))), .val (.ref s0), .val (.int (0 : Int32))] []))
    refine Go.on (fun t k => XS.goto X2.here hx rfl (pc0 := 18) (pc' := 142) rfl (hb hby at_18) (by decide) (by decide) k) ?_
    show Go p.tables e below s _ _ _ (T2.setTop (mkF m 142 #[.val (.int p1), .val (.int ((p1 &&& (2147483647 : Int32)) % (10 : Int32))), .val (.ref s0), .val (.int (0 : Int32))] []))
    refine Go.on (fun t k => XS.aloadN X2.here hx rfl (hb hby at_142) rfl rfl k) ?_
    show Go p.tables e below s _ _ _ (T2.setTop (mkF m 143 #[.val (.int p1), .val (.int ((p1 &&& (2147483647 : Int32)) % (10 : Int32))), .val (.ref s0), .val (.int (0 : Int32))] [(.ref s0)]))
    obtain ⟨cq3, kq3, q3a, q3b, q3c⟩ := isOf hZ e2 E_s0
    obtain ⟨_, _, ⟨T3, L3, k3, n3⟩, -, X3, ⟨Lc3, hQ3, l3, y3, z3⟩, st3⟩ := X2.virtualBack hx (y := (⟨"com/example/tidewell/tidewell/engine/Aggregate$Function", "takesDistinct", "()Z"⟩ : MethodName)) (z := (⟨"com/example/tidewell/tidewell/engine/Aggregate$Function", "takesDistinct", "()Z"⟩ : MethodName)) hown (mvT hZ (hw _ (List.mem_of_getElem? (i := 4) rfl))) (mvT hZ (hw _ (List.mem_of_getElem? (i := 5) rfl))) (notFace_of_selects (args := #[]) (mvT hZ (hw _ (List.mem_of_getElem? (i := 7) rfl)))) (mvT hZ (hw _ (List.mem_of_getElem? (i := 7) rfl))) (mvT hZ (hw _ (List.mem_of_getElem? (i := 6) rfl))) (by decide) (backOf (W := 0) (rm1 l Z a0 hw [] s0 s5 s6 s7 s8 h0 n0 Z0 Sta_FIRST Sta_LAST Sta_MIN_TIME Sta_MAX_TIME) hZ (hw _ (List.mem_of_getElem? (i := 8) rfl)) (hw _ (List.mem_of_getElem? (i := 2) rfl)) (by decide) (by decide)) q3a q3c (g := (mkF m 143 #[.val (.int p1), .val (.int ((p1 &&& (2147483647 : Int32)) % (10 : Int32))), .val (.ref s0), .val (.int (0 : Int32))] [(.ref s0)])) rfl (by rw [hml]; rfl) (Steps.refl _) (argsL := []) (rest := []) (lenOf pd__40__41_Z rfl) rfl (by show 2 * 0 + _ ≤ _; exact Nat.le_of_eq rfl) (hb hby at_143) (fun _ _ => ⟨rfl, e2, (by decide : 0 + 0 ≤ _), (by decide : 0 + 0 ≤ _)⟩)
    dsimp only [Pt.U, Pt.locs, Pt.cells, Pt.slots] at X3 l3 y3 z3 st3 hQ3
    rw [l3, y3, z3] at X3
    obtain ⟨rfl, Nq3, e3⟩ := hQ3
    have Np4 := Fr.app N0 Nq3
    refine Go.via st3 ?_
    show Go p.tables e below s _ _ _ (T3.setTop (mkF m 146 #[.val (.int p1), .val (.int ((p1 &&& (2147483647 : Int32)) % (10 : Int32))), .val (.ref s0), .val (.int (0 : Int32))] [(.int (own_b (¬ s0 = s5 ∧ ¬ s0 = s6 ∧ ¬ s0 = s7 ∧ ¬ s0 = s8)))]))
    refine Go.on (fun t k => XS.iloadN X3.here hx rfl (hb hby at_146) rfl k) ?_
    show Go p.tables e below s _ _ _ (T3.setTop (mkF m 147 #[.val (.int p1), .val (.int ((p1 &&& (2147483647 : Int32)) % (10 : Int32))), .val (.ref s0), .val (.int (0 : Int32))] [(.int (0 : Int32)), (.int (own_b (¬ s0 = s5 ∧ ¬ s0 = s6 ∧ ¬ s0 = s7 ∧ ¬ s0 = s8)))]))
    refine Go.on (fun t k => XS.ifNo X3.here hx rfl (hb hby at_147) rfl ((if0 _ _).trans (teq (by decide : (0 : Int32) = (0 : Int32))).2) k) ?_
    show Go p.tables e below s _ _ _ (T3.setTop (mkF m 150 #[.val (.int p1), .val (.int ((p1 &&& (2147483647 : Int32)) % (10 : Int32))), .val (.ref s0), .val (.int (0 : Int32))] [(.int (own_b (¬ s0 = s5 ∧ ¬ s0 = s6 ∧ ¬ s0 = s7 ∧ ¬ s0 = s8)))]))
    refine Go.on (fun t k => XS.iconst X3.here hx rfl (hb hby at_150) k) ?_
    show Go p.tables e below s _ _ _ (T3.setTop (mkF m 151 #[.val (.int p1), .val (.int ((p1 &&& (2147483647 : Int32)) % (10 : Int32))), .val (.ref s0), .val (.int (0 : Int32))] [(.int (1 : Int32)), (.int (own_b (¬ s0 = s5 ∧ ¬ s0 = s6 ∧ ¬ s0 = s7 ∧ ¬ s0 = s8)))]))
    refine Go.on (fun t k => XS.goto X3.here hx rfl (pc0 := 151) (pc' := 155) rfl (hb hby at_151) (by decide) (by decide) k) ?_
    show Go p.tables e below s _ _ _ (T3.setTop (mkF m 155 #[.val (.int p1), .val (.int ((p1 &&& (2147483647 : Int32)) % (10 : Int32))), .val (.ref s0), .val (.int (0 : Int32))] [(.int (1 : Int32)), (.int (own_b (¬ s0 = s5 ∧ ¬ s0 = s6 ∧ ¬ s0 = s7 ∧ ¬ s0 = s8)))]))
    refine Go.on (fun t k => XS.icmpNo X3.here hx rfl (hb hby at_155) rfl (teq (own_bt ⟨F_ordinal_s0.ne F_ordinal_s5 (by decide), F_ordinal_s0.ne F_ordinal_s6 (by decide), F_ordinal_s0.ne F_ordinal_s7 (by decide), F_ordinal_s0.ne F_ordinal_s8 (by decide)⟩)).2 k) ?_
    show Go p.tables e below s _ _ _ (T3.setTop (mkF m 158 #[.val (.int p1), .val (.int ((p1 &&& (2147483647 : Int32)) % (10 : Int32))), .val (.ref s0), .val (.int (0 : Int32))] []))
    refine Go.on (fun t k => XS.iconst X3.here hx rfl (hb hby at_158) k) ?_
    show Go p.tables e below s _ _ _ (T3.setTop (mkF m 159 #[.val (.int p1), .val (.int ((p1 &&& (2147483647 : Int32)) % (10 : Int32))), .val (.ref s0), .val (.int (0 : Int32))] [(.int (1 : Int32))]))
    refine Go.on (fun t k => XS.goto X3.here hx rfl (pc0 := 159) (pc' := 163) rfl (hb hby at_159) (by decide) (by decide) k) ?_
    show Go p.tables e below s _ _ _ (T3.setTop (mkF m 163 #[.val (.int p1), .val (.int ((p1 &&& (2147483647 : Int32)) % (10 : Int32))), .val (.ref s0), .val (.int (0 : Int32))] [(.int (1 : Int32))]))
    refine Go.retN X3 hx hlk (t := .boolean) Bd.returns (by simp) (hb hby at_163) (by decide) (by decide) e3 ?_
    exact ⟨rfl, Np4⟩
  · refine Go.on (fun t k => XS.ifYes X0.here hx rfl (pc0 := 9) (pc' := 21) rfl (hb hby at_9) rfl ((if0 _ _).trans (feq hc9_1).2) (by decide) (by decide) k) ?_
    show Go p.tables e below s _ _ _ (s₁.setTop (mkF m 21 #[.val (.int p1), .val (.int ((p1 &&& (2147483647 : Int32)) % (10 : Int32))), .unset, .unset] []))
    refine Go.on (fun t k => XS.iloadN X0.here hx rfl (hb hby at_21) rfl k) ?_
    show Go p.tables e below s _ _ _ (s₁.setTop (mkF m 22 #[.val (.int p1), .val (.int ((p1 &&& (2147483647 : Int32)) % (10 : Int32))), .unset, .unset] [(.int ((p1 &&& (2147483647 : Int32)) % (10 : Int32)))]))
    refine Go.on (fun t k => XS.iconst X0.here hx rfl (hb hby at_22) k) ?_
    show Go p.tables e below s _ _ _ (s₁.setTop (mkF m 23 #[.val (.int p1), .val (.int ((p1 &&& (2147483647 : Int32)) % (10 : Int32))), .unset, .unset] [(.int (1 : Int32)), (.int ((p1 &&& (2147483647 : Int32)) % (10 : Int32)))]))
    by_cases hc23_5 : ((p1 &&& (2147483647 : Int32)) % (10 : Int32)) = (1 : Int32)
    · refine Go.on (fun t k => XS.icmpNo X0.here hx rfl (hb hby at_23) rfl (teq hc23_5).2 k) ?_
      show Go p.tables e below s _ _ _ (s₁.setTop (mkF m 26 #[.val (.int p1), .val (.int ((p1 &&& (2147483647 : Int32)) % (10 : Int32))), .unset, .unset] []))
      obtain ⟨T6, X6, e6, st6⟩ := getS2 X0 hx hZ hown (host := "") (Or.inl (hw _ (List.mem_of_getElem? (i := 19) rfl))) Via.refl e0 Sta_SUM (g := (mkF m 26 #[.val (.int p1), .val (.int ((p1 &&& (2147483647 : Int32)) % (10 : Int32))), .unset, .unset] [])) rfl (hb hby at_26)
      refine Go.on st6 ?_
      show Go p.tables e below s _ _ _ (T6.setTop (mkF m 29 #[.val (.int p1), .val (.int ((p1 &&& (2147483647 : Int32)) % (10 : Int32))), .unset, .unset] [(.ref s1)]))
      refine Go.on (fun t k => XS.astoreN X6.here hx rfl (hb hby at_29) rfl rfl (l' := #[.val (.int p1), .val (.int ((p1 &&& (2147483647 : Int32)) % (10 : Int32))), .val (.ref s1), .unset]) rfl k) ?_
      show Go p.tables e below s _ _ _ (T6.setTop (mkF m 30 #[.val (.int p1), .val (.int ((p1 &&& (2147483647 : Int32)) % (10 : Int32))), .val (.ref s1), .unset] []))
      refine Go.on (fun t k => XS.iconst X6.here hx rfl (hb hby at_30) k) ?_
      show Go p.tables e below s _ _ _ (T6.setTop (mkF m 31 #[.val (.int p1), .val (.int ((p1 &&& (2147483647 : Int32)) % (10 : Int32))), .val (.ref s1), .unset] [(.int (0 : Int32))]))
      refine Go.on (fun t k => XS.istoreN X6.here hx rfl (hb hby at_31) rfl (l' := #[.val (.int p1), .val (.int ((p1 &&& (2147483647 : Int32)) % (10 : Int32))), .val (.ref s1), .val (.int (0 : Int32))]) rfl k) ?_
      show Go p.tables e below s _ _ _ (T6.setTop (mkF m 32 #[.val (.int p1), .val (.int ((p1 &&& (2147483647 : Int32)) % (10 : Int32))), .val (.ref s1), .val (.int (0 : Int32))] []))
      refine Go.on (fun t k => XS.goto X6.here hx rfl (pc0 := 32) (pc' := 142) rfl (hb hby at_32) (by decide) (by decide) k) ?_
      show Go p.tables e below s _ _ _ (T6.setTop (mkF m 142 #[.val (.int p1), .val (.int ((p1 &&& (2147483647 : Int32)) % (10 : Int32))), .val (.ref s1), .val (.int (0 : Int32))] []))
      refine Go.on (fun t k => XS.aloadN X6.here hx rfl (hb hby at_142) rfl rfl k) ?_
      show Go p.tables e below s _ _ _ (T6.setTop (mkF m 143 #[.val (.int p1), .val (.int ((p1 &&& (2147483647 : Int32)) % (10 : Int32))), .val (.ref s1), .val (.int (0 : Int32))] [(.ref s1)]))
      obtain ⟨cq7, kq7, q7a, q7b, q7c⟩ := isOf hZ e6 E_s1
      obtain ⟨_, _, ⟨T7, L7, k7, n7⟩, -, X7, ⟨Lc7, hQ7, l7, y7, z7⟩, st7⟩ := X6.virtualBack hx (y := (⟨"com/example/tidewell/tidewell/engine/Aggregate$Function", "takesDistinct", "()Z"⟩ : MethodName)) (z := (⟨"com/example/tidewell/tidewell/engine/Aggregate$Function", "takesDistinct", "()Z"⟩ : MethodName)) hown (mvT hZ (hw _ (List.mem_of_getElem? (i := 4) rfl))) (mvT hZ (hw _ (List.mem_of_getElem? (i := 5) rfl))) (notFace_of_selects (args := #[]) (mvT hZ (hw _ (List.mem_of_getElem? (i := 7) rfl)))) (mvT hZ (hw _ (List.mem_of_getElem? (i := 7) rfl))) (mvT hZ (hw _ (List.mem_of_getElem? (i := 6) rfl))) (by decide) (backOf (W := 0) (rm1 l Z a0 hw [] s1 s5 s6 s7 s8 h0 n0 Z0 Sta_FIRST Sta_LAST Sta_MIN_TIME Sta_MAX_TIME) hZ (hw _ (List.mem_of_getElem? (i := 8) rfl)) (hw _ (List.mem_of_getElem? (i := 2) rfl)) (by decide) (by decide)) q7a q7c (g := (mkF m 143 #[.val (.int p1), .val (.int ((p1 &&& (2147483647 : Int32)) % (10 : Int32))), .val (.ref s1), .val (.int (0 : Int32))] [(.ref s1)])) rfl (by rw [hml]; rfl) (Steps.refl _) (argsL := []) (rest := []) (lenOf pd__40__41_Z rfl) rfl (by show 2 * 0 + _ ≤ _; exact Nat.le_of_eq rfl) (hb hby at_143) (fun _ _ => ⟨rfl, e6, (by decide : 0 + 0 ≤ _), (by decide : 0 + 0 ≤ _)⟩)
      dsimp only [Pt.U, Pt.locs, Pt.cells, Pt.slots] at X7 l7 y7 z7 st7 hQ7
      rw [l7, y7, z7] at X7
      obtain ⟨rfl, Nq7, e7⟩ := hQ7
      have Np8 := Fr.app N0 Nq7
      refine Go.via st7 ?_
      show Go p.tables e below s _ _ _ (T7.setTop (mkF m 146 #[.val (.int p1), .val (.int ((p1 &&& (2147483647 : Int32)) % (10 : Int32))), .val (.ref s1), .val (.int (0 : Int32))] [(.int (own_b (¬ s1 = s5 ∧ ¬ s1 = s6 ∧ ¬ s1 = s7 ∧ ¬ s1 = s8)))]))
      refine Go.on (fun t k => XS.iloadN X7.here hx rfl (hb hby at_146) rfl k) ?_
      show Go p.tables e below s _ _ _ (T7.setTop (mkF m 147 #[.val (.int p1), .val (.int ((p1 &&& (2147483647 : Int32)) % (10 : Int32))), .val (.ref s1), .val (.int (0 : Int32))] [(.int (0 : Int32)), (.int (own_b (¬ s1 = s5 ∧ ¬ s1 = s6 ∧ ¬ s1 = s7 ∧ ¬ s1 = s8)))]))
      refine Go.on (fun t k => XS.ifNo X7.here hx rfl (hb hby at_147) rfl ((if0 _ _).trans (teq (by decide : (0 : Int32) = (0 : Int32))).2) k) ?_
      show Go p.tables e below s _ _ _ (T7.setTop (mkF m 150 #[.val (.int p1), .val (.int ((p1 &&& (2147483647 : Int32)) % (10 : Int32))), .val (.ref s1), .val (.int (0 : Int32))] [(.int (own_b (¬ s1 = s5 ∧ ¬ s1 = s6 ∧ ¬ s1 = s7 ∧ ¬ s1 = s8)))]))
      refine Go.on (fun t k => XS.iconst X7.here hx rfl (hb hby at_150) k) ?_
      show Go p.tables e below s _ _ _ (T7.setTop (mkF m 151 #[.val (.int p1), .val (.int ((p1 &&& (2147483647 : Int32)) % (10 : Int32))), .val (.ref s1), .val (.int (0 : Int32))] [(.int (1 : Int32)), (.int (own_b (¬ s1 = s5 ∧ ¬ s1 = s6 ∧ ¬ s1 = s7 ∧ ¬ s1 = s8)))]))
      refine Go.on (fun t k => XS.goto X7.here hx rfl (pc0 := 151) (pc' := 155) rfl (hb hby at_151) (by decide) (by decide) k) ?_
      show Go p.tables e below s _ _ _ (T7.setTop (mkF m 155 #[.val (.int p1), .val (.int ((p1 &&& (2147483647 : Int32)) % (10 : Int32))), .val (.ref s1), .val (.int (0 : Int32))] [(.int (1 : Int32)), (.int (own_b (¬ s1 = s5 ∧ ¬ s1 = s6 ∧ ¬ s1 = s7 ∧ ¬ s1 = s8)))]))
      refine Go.on (fun t k => XS.icmpNo X7.here hx rfl (hb hby at_155) rfl (teq (own_bt ⟨F_ordinal_s1.ne F_ordinal_s5 (by decide), F_ordinal_s1.ne F_ordinal_s6 (by decide), F_ordinal_s1.ne F_ordinal_s7 (by decide), F_ordinal_s1.ne F_ordinal_s8 (by decide)⟩)).2 k) ?_
      show Go p.tables e below s _ _ _ (T7.setTop (mkF m 158 #[.val (.int p1), .val (.int ((p1 &&& (2147483647 : Int32)) % (10 : Int32))), .val (.ref s1), .val (.int (0 : Int32))] []))
      refine Go.on (fun t k => XS.iconst X7.here hx rfl (hb hby at_158) k) ?_
      show Go p.tables e below s _ _ _ (T7.setTop (mkF m 159 #[.val (.int p1), .val (.int ((p1 &&& (2147483647 : Int32)) % (10 : Int32))), .val (.ref s1), .val (.int (0 : Int32))] [(.int (1 : Int32))]))
      refine Go.on (fun t k => XS.goto X7.here hx rfl (pc0 := 159) (pc' := 163) rfl (hb hby at_159) (by decide) (by decide) k) ?_
      show Go p.tables e below s _ _ _ (T7.setTop (mkF m 163 #[.val (.int p1), .val (.int ((p1 &&& (2147483647 : Int32)) % (10 : Int32))), .val (.ref s1), .val (.int (0 : Int32))] [(.int (1 : Int32))]))
      refine Go.retN X7 hx hlk (t := .boolean) Bd.returns (by simp) (hb hby at_163) (by decide) (by decide) e7 ?_
      exact ⟨rfl, Np8⟩
    · refine Go.on (fun t k => XS.icmpYes X0.here hx rfl (pc0 := 23) (pc' := 35) rfl (hb hby at_23) rfl (feq hc23_5).2 (by decide) (by decide) k) ?_
      show Go p.tables e below s _ _ _ (s₁.setTop (mkF m 35 #[.val (.int p1), .val (.int ((p1 &&& (2147483647 : Int32)) % (10 : Int32))), .unset, .unset] []))
      refine Go.on (fun t k => XS.iloadN X0.here hx rfl (hb hby at_35) rfl k) ?_
      show Go p.tables e below s _ _ _ (s₁.setTop (mkF m 36 #[.val (.int p1), .val (.int ((p1 &&& (2147483647 : Int32)) % (10 : Int32))), .unset, .unset] [(.int ((p1 &&& (2147483647 : Int32)) % (10 : Int32)))]))
      refine Go.on (fun t k => XS.iconst X0.here hx rfl (hb hby at_36) k) ?_
      show Go p.tables e below s _ _ _ (s₁.setTop (mkF m 37 #[.val (.int p1), .val (.int ((p1 &&& (2147483647 : Int32)) % (10 : Int32))), .unset, .unset] [(.int (2 : Int32)), (.int ((p1 &&& (2147483647 : Int32)) % (10 : Int32)))]))
      by_cases hc37_9 : ((p1 &&& (2147483647 : Int32)) % (10 : Int32)) = (2 : Int32)
      · refine Go.on (fun t k => XS.icmpNo X0.here hx rfl (hb hby at_37) rfl (teq hc37_9).2 k) ?_
        show Go p.tables e below s _ _ _ (s₁.setTop (mkF m 40 #[.val (.int p1), .val (.int ((p1 &&& (2147483647 : Int32)) % (10 : Int32))), .unset, .unset] []))
        obtain ⟨T10, X10, e10, st10⟩ := getS2 X0 hx hZ hown (host := "") (Or.inl (hw _ (List.mem_of_getElem? (i := 24) rfl))) Via.refl e0 Sta_AVG (g := (mkF m 40 #[.val (.int p1), .val (.int ((p1 &&& (2147483647 : Int32)) % (10 : Int32))), .unset, .unset] [])) rfl (hb hby at_40)
        refine Go.on st10 ?_
        show Go p.tables e below s _ _ _ (T10.setTop (mkF m 43 #[.val (.int p1), .val (.int ((p1 &&& (2147483647 : Int32)) % (10 : Int32))), .unset, .unset] [(.ref s2)]))
        refine Go.on (fun t k => XS.astoreN X10.here hx rfl (hb hby at_43) rfl rfl (l' := #[.val (.int p1), .val (.int ((p1 &&& (2147483647 : Int32)) % (10 : Int32))), .val (.ref s2), .unset]) rfl k) ?_
        show Go p.tables e below s _ _ _ (T10.setTop (mkF m 44 #[.val (.int p1), .val (.int ((p1 &&& (2147483647 : Int32)) % (10 : Int32))), .val (.ref s2), .unset] []))
        refine Go.on (fun t k => XS.iconst X10.here hx rfl (hb hby at_44) k) ?_
        show Go p.tables e below s _ _ _ (T10.setTop (mkF m 45 #[.val (.int p1), .val (.int ((p1 &&& (2147483647 : Int32)) % (10 : Int32))), .val (.ref s2), .unset] [(.int (0 : Int32))]))
        refine Go.on (fun t k => XS.istoreN X10.here hx rfl (hb hby at_45) rfl (l' := #[.val (.int p1), .val (.int ((p1 &&& (2147483647 : Int32)) % (10 : Int32))), .val (.ref s2), .val (.int (0 : Int32))]) rfl k) ?_
        show Go p.tables e below s _ _ _ (T10.setTop (mkF m 46 #[.val (.int p1), .val (.int ((p1 &&& (2147483647 : Int32)) % (10 : Int32))), .val (.ref s2), .val (.int (0 : Int32))] []))
        refine Go.on (fun t k => XS.goto X10.here hx rfl (pc0 := 46) (pc' := 142) rfl (hb hby at_46) (by decide) (by decide) k) ?_
        show Go p.tables e below s _ _ _ (T10.setTop (mkF m 142 #[.val (.int p1), .val (.int ((p1 &&& (2147483647 : Int32)) % (10 : Int32))), .val (.ref s2), .val (.int (0 : Int32))] []))
        refine Go.on (fun t k => XS.aloadN X10.here hx rfl (hb hby at_142) rfl rfl k) ?_
        show Go p.tables e below s _ _ _ (T10.setTop (mkF m 143 #[.val (.int p1), .val (.int ((p1 &&& (2147483647 : Int32)) % (10 : Int32))), .val (.ref s2), .val (.int (0 : Int32))] [(.ref s2)]))
        obtain ⟨cq11, kq11, q11a, q11b, q11c⟩ := isOf hZ e10 E_s2
        obtain ⟨_, _, ⟨T11, L11, k11, n11⟩, -, X11, ⟨Lc11, hQ11, l11, y11, z11⟩, st11⟩ := X10.virtualBack hx (y := (⟨"com/example/tidewell/tidewell/engine/Aggregate$Function", "takesDistinct", "()Z"⟩ : MethodName)) (z := (⟨"com/example/tidewell/tidewell/engine/Aggregate$Function", "takesDistinct", "()Z"⟩ : MethodName)) hown (mvT hZ (hw _ (List.mem_of_getElem? (i := 4) rfl))) (mvT hZ (hw _ (List.mem_of_getElem? (i := 5) rfl))) (notFace_of_selects (args := #[]) (mvT hZ (hw _ (List.mem_of_getElem? (i := 7) rfl)))) (mvT hZ (hw _ (List.mem_of_getElem? (i := 7) rfl))) (mvT hZ (hw _ (List.mem_of_getElem? (i := 6) rfl))) (by decide) (backOf (W := 0) (rm1 l Z a0 hw [] s2 s5 s6 s7 s8 h0 n0 Z0 Sta_FIRST Sta_LAST Sta_MIN_TIME Sta_MAX_TIME) hZ (hw _ (List.mem_of_getElem? (i := 8) rfl)) (hw _ (List.mem_of_getElem? (i := 2) rfl)) (by decide) (by decide)) q11a q11c (g := (mkF m 143 #[.val (.int p1), .val (.int ((p1 &&& (2147483647 : Int32)) % (10 : Int32))), .val (.ref s2), .val (.int (0 : Int32))] [(.ref s2)])) rfl (by rw [hml]; rfl) (Steps.refl _) (argsL := []) (rest := []) (lenOf pd__40__41_Z rfl) rfl (by show 2 * 0 + _ ≤ _; exact Nat.le_of_eq rfl) (hb hby at_143) (fun _ _ => ⟨rfl, e10, (by decide : 0 + 0 ≤ _), (by decide : 0 + 0 ≤ _)⟩)
        dsimp only [Pt.U, Pt.locs, Pt.cells, Pt.slots] at X11 l11 y11 z11 st11 hQ11
        rw [l11, y11, z11] at X11
        obtain ⟨rfl, Nq11, e11⟩ := hQ11
        have Np12 := Fr.app N0 Nq11
        refine Go.via st11 ?_
        show Go p.tables e below s _ _ _ (T11.setTop (mkF m 146 #[.val (.int p1), .val (.int ((p1 &&& (2147483647 : Int32)) % (10 : Int32))), .val (.ref s2), .val (.int (0 : Int32))] [(.int (own_b (¬ s2 = s5 ∧ ¬ s2 = s6 ∧ ¬ s2 = s7 ∧ ¬ s2 = s8)))]))
        refine Go.on (fun t k => XS.iloadN X11.here hx rfl (hb hby at_146) rfl k) ?_
        show Go p.tables e below s _ _ _ (T11.setTop (mkF m 147 #[.val (.int p1), .val (.int ((p1 &&& (2147483647 : Int32)) % (10 : Int32))), .val (.ref s2), .val (.int (0 : Int32))] [(.int (0 : Int32)), (.int (own_b (¬ s2 = s5 ∧ ¬ s2 = s6 ∧ ¬ s2 = s7 ∧ ¬ s2 = s8)))]))
        refine Go.on (fun t k => XS.ifNo X11.here hx rfl (hb hby at_147) rfl ((if0 _ _).trans (teq (by decide : (0 : Int32) = (0 : Int32))).2) k) ?_
        show Go p.tables e below s _ _ _ (T11.setTop (mkF m 150 #[.val (.int p1), .val (.int ((p1 &&& (2147483647 : Int32)) % (10 : Int32))), .val (.ref s2), .val (.int (0 : Int32))] [(.int (own_b (¬ s2 = s5 ∧ ¬ s2 = s6 ∧ ¬ s2 = s7 ∧ ¬ s2 = s8)))]))
        refine Go.on (fun t k => XS.iconst X11.here hx rfl (hb hby at_150) k) ?_
        show Go p.tables e below s _ _ _ (T11.setTop (mkF m 151 #[.val (.int p1), .val (.int ((p1 &&& (2147483647 : Int32)) % (10 : Int32))), .val (.ref s2), .val (.int (0 : Int32))] [(.int (1 : Int32)), (.int (own_b (¬ s2 = s5 ∧ ¬ s2 = s6 ∧ ¬ s2 = s7 ∧ ¬ s2 = s8)))]))
        refine Go.on (fun t k => XS.goto X11.here hx rfl (pc0 := 151) (pc' := 155) rfl (hb hby at_151) (by decide) (by decide) k) ?_
        show Go p.tables e below s _ _ _ (T11.setTop (mkF m 155 #[.val (.int p1), .val (.int ((p1 &&& (2147483647 : Int32)) % (10 : Int32))), .val (.ref s2), .val (.int (0 : Int32))] [(.int (1 : Int32)), (.int (own_b (¬ s2 = s5 ∧ ¬ s2 = s6 ∧ ¬ s2 = s7 ∧ ¬ s2 = s8)))]))
        refine Go.on (fun t k => XS.icmpNo X11.here hx rfl (hb hby at_155) rfl (teq (own_bt ⟨F_ordinal_s2.ne F_ordinal_s5 (by decide), F_ordinal_s2.ne F_ordinal_s6 (by decide), F_ordinal_s2.ne F_ordinal_s7 (by decide), F_ordinal_s2.ne F_ordinal_s8 (by decide)⟩)).2 k) ?_
        show Go p.tables e below s _ _ _ (T11.setTop (mkF m 158 #[.val (.int p1), .val (.int ((p1 &&& (2147483647 : Int32)) % (10 : Int32))), .val (.ref s2), .val (.int (0 : Int32))] []))
        refine Go.on (fun t k => XS.iconst X11.here hx rfl (hb hby at_158) k) ?_
        show Go p.tables e below s _ _ _ (T11.setTop (mkF m 159 #[.val (.int p1), .val (.int ((p1 &&& (2147483647 : Int32)) % (10 : Int32))), .val (.ref s2), .val (.int (0 : Int32))] [(.int (1 : Int32))]))
        refine Go.on (fun t k => XS.goto X11.here hx rfl (pc0 := 159) (pc' := 163) rfl (hb hby at_159) (by decide) (by decide) k) ?_
        show Go p.tables e below s _ _ _ (T11.setTop (mkF m 163 #[.val (.int p1), .val (.int ((p1 &&& (2147483647 : Int32)) % (10 : Int32))), .val (.ref s2), .val (.int (0 : Int32))] [(.int (1 : Int32))]))
        refine Go.retN X11 hx hlk (t := .boolean) Bd.returns (by simp) (hb hby at_163) (by decide) (by decide) e11 ?_
        exact ⟨rfl, Np12⟩
      · refine Go.on (fun t k => XS.icmpYes X0.here hx rfl (pc0 := 37) (pc' := 49) rfl (hb hby at_37) rfl (feq hc37_9).2 (by decide) (by decide) k) ?_
        show Go p.tables e below s _ _ _ (s₁.setTop (mkF m 49 #[.val (.int p1), .val (.int ((p1 &&& (2147483647 : Int32)) % (10 : Int32))), .unset, .unset] []))
        refine Go.on (fun t k => XS.iloadN X0.here hx rfl (hb hby at_49) rfl k) ?_
        show Go p.tables e below s _ _ _ (s₁.setTop (mkF m 50 #[.val (.int p1), .val (.int ((p1 &&& (2147483647 : Int32)) % (10 : Int32))), .unset, .unset] [(.int ((p1 &&& (2147483647 : Int32)) % (10 : Int32)))]))
        refine Go.on (fun t k => XS.iconst X0.here hx rfl (hb hby at_50) k) ?_
        show Go p.tables e below s _ _ _ (s₁.setTop (mkF m 51 #[.val (.int p1), .val (.int ((p1 &&& (2147483647 : Int32)) % (10 : Int32))), .unset, .unset] [(.int (3 : Int32)), (.int ((p1 &&& (2147483647 : Int32)) % (10 : Int32)))]))
        by_cases hc51_13 : ((p1 &&& (2147483647 : Int32)) % (10 : Int32)) = (3 : Int32)
        · refine Go.on (fun t k => XS.icmpNo X0.here hx rfl (hb hby at_51) rfl (teq hc51_13).2 k) ?_
          show Go p.tables e below s _ _ _ (s₁.setTop (mkF m 54 #[.val (.int p1), .val (.int ((p1 &&& (2147483647 : Int32)) % (10 : Int32))), .unset, .unset] []))
          obtain ⟨T14, X14, e14, st14⟩ := getS2 X0 hx hZ hown (host := "") (Or.inl (hw _ (List.mem_of_getElem? (i := 17) rfl))) Via.refl e0 Sta_MIN (g := (mkF m 54 #[.val (.int p1), .val (.int ((p1 &&& (2147483647 : Int32)) % (10 : Int32))), .unset, .unset] [])) rfl (hb hby at_54)
          refine Go.on st14 ?_
          show Go p.tables e below s _ _ _ (T14.setTop (mkF m 57 #[.val (.int p1), .val (.int ((p1 &&& (2147483647 : Int32)) % (10 : Int32))), .unset, .unset] [(.ref s3)]))
          refine Go.on (fun t k => XS.astoreN X14.here hx rfl (hb hby at_57) rfl rfl (l' := #[.val (.int p1), .val (.int ((p1 &&& (2147483647 : Int32)) % (10 : Int32))), .val (.ref s3), .unset]) rfl k) ?_
          show Go p.tables e below s _ _ _ (T14.setTop (mkF m 58 #[.val (.int p1), .val (.int ((p1 &&& (2147483647 : Int32)) % (10 : Int32))), .val (.ref s3), .unset] []))
          refine Go.on (fun t k => XS.iconst X14.here hx rfl (hb hby at_58) k) ?_
          show Go p.tables e below s _ _ _ (T14.setTop (mkF m 59 #[.val (.int p1), .val (.int ((p1 &&& (2147483647 : Int32)) % (10 : Int32))), .val (.ref s3), .unset] [(.int (0 : Int32))]))
          refine Go.on (fun t k => XS.istoreN X14.here hx rfl (hb hby at_59) rfl (l' := #[.val (.int p1), .val (.int ((p1 &&& (2147483647 : Int32)) % (10 : Int32))), .val (.ref s3), .val (.int (0 : Int32))]) rfl k) ?_
          show Go p.tables e below s _ _ _ (T14.setTop (mkF m 60 #[.val (.int p1), .val (.int ((p1 &&& (2147483647 : Int32)) % (10 : Int32))), .val (.ref s3), .val (.int (0 : Int32))] []))
          refine Go.on (fun t k => XS.goto X14.here hx rfl (pc0 := 60) (pc' := 142) rfl (hb hby at_60) (by decide) (by decide) k) ?_
          show Go p.tables e below s _ _ _ (T14.setTop (mkF m 142 #[.val (.int p1), .val (.int ((p1 &&& (2147483647 : Int32)) % (10 : Int32))), .val (.ref s3), .val (.int (0 : Int32))] []))
          refine Go.on (fun t k => XS.aloadN X14.here hx rfl (hb hby at_142) rfl rfl k) ?_
          show Go p.tables e below s _ _ _ (T14.setTop (mkF m 143 #[.val (.int p1), .val (.int ((p1 &&& (2147483647 : Int32)) % (10 : Int32))), .val (.ref s3), .val (.int (0 : Int32))] [(.ref s3)]))
          obtain ⟨cq15, kq15, q15a, q15b, q15c⟩ := isOf hZ e14 E_s3
          obtain ⟨_, _, ⟨T15, L15, k15, n15⟩, -, X15, ⟨Lc15, hQ15, l15, y15, z15⟩, st15⟩ := X14.virtualBack hx (y := (⟨"com/example/tidewell/tidewell/engine/Aggregate$Function", "takesDistinct", "()Z"⟩ : MethodName)) (z := (⟨"com/example/tidewell/tidewell/engine/Aggregate$Function", "takesDistinct", "()Z"⟩ : MethodName)) hown (mvT hZ (hw _ (List.mem_of_getElem? (i := 4) rfl))) (mvT hZ (hw _ (List.mem_of_getElem? (i := 5) rfl))) (notFace_of_selects (args := #[]) (mvT hZ (hw _ (List.mem_of_getElem? (i := 7) rfl)))) (mvT hZ (hw _ (List.mem_of_getElem? (i := 7) rfl))) (mvT hZ (hw _ (List.mem_of_getElem? (i := 6) rfl))) (by decide) (backOf (W := 0) (rm1 l Z a0 hw [] s3 s5 s6 s7 s8 h0 n0 Z0 Sta_FIRST Sta_LAST Sta_MIN_TIME Sta_MAX_TIME) hZ (hw _ (List.mem_of_getElem? (i := 8) rfl)) (hw _ (List.mem_of_getElem? (i := 2) rfl)) (by decide) (by decide)) q15a q15c (g := (mkF m 143 #[.val (.int p1), .val (.int ((p1 &&& (2147483647 : Int32)) % (10 : Int32))), .val (.ref s3), .val (.int (0 : Int32))] [(.ref s3)])) rfl (by rw [hml]; rfl) (Steps.refl _) (argsL := []) (rest := []) (lenOf pd__40__41_Z rfl) rfl (by show 2 * 0 + _ ≤ _; exact Nat.le_of_eq rfl) (hb hby at_143) (fun _ _ => ⟨rfl, e14, (by decide : 0 + 0 ≤ _), (by decide : 0 + 0 ≤ _)⟩)
          dsimp only [Pt.U, Pt.locs, Pt.cells, Pt.slots] at X15 l15 y15 z15 st15 hQ15
          rw [l15, y15, z15] at X15
          obtain ⟨rfl, Nq15, e15⟩ := hQ15
          have Np16 := Fr.app N0 Nq15
          refine Go.via st15 ?_
          show Go p.tables e below s _ _ _ (T15.setTop (mkF m 146 #[.val (.int p1), .val (.int ((p1 &&& (2147483647 : Int32)) % (10 : Int32))), .val (.ref s3), .val (.int (0 : Int32))] [(.int (own_b (¬ s3 = s5 ∧ ¬ s3 = s6 ∧ ¬ s3 = s7 ∧ ¬ s3 = s8)))]))
          refine Go.on (fun t k => XS.iloadN X15.here hx rfl (hb hby at_146) rfl k) ?_
          show Go p.tables e below s _ _ _ (T15.setTop (mkF m 147 #[.val (.int p1), .val (.int ((p1 &&& (2147483647 : Int32)) % (10 : Int32))), .val (.ref s3), .val (.int (0 : Int32))] [(.int (0 : Int32)), (.int (own_b (¬ s3 = s5 ∧ ¬ s3 = s6 ∧ ¬ s3 = s7 ∧ ¬ s3 = s8)))]))
          refine Go.on (fun t k => XS.ifNo X15.here hx rfl (hb hby at_147) rfl ((if0 _ _).trans (teq (by decide : (0 : Int32) = (0 : Int32))).2) k) ?_
          show Go p.tables e below s _ _ _ (T15.setTop (mkF m 150 #[.val (.int p1), .val (.int ((p1 &&& (2147483647 : Int32)) % (10 : Int32))), .val (.ref s3), .val (.int (0 : Int32))] [(.int (own_b (¬ s3 = s5 ∧ ¬ s3 = s6 ∧ ¬ s3 = s7 ∧ ¬ s3 = s8)))]))
          refine Go.on (fun t k => XS.iconst X15.here hx rfl (hb hby at_150) k) ?_
          show Go p.tables e below s _ _ _ (T15.setTop (mkF m 151 #[.val (.int p1), .val (.int ((p1 &&& (2147483647 : Int32)) % (10 : Int32))), .val (.ref s3), .val (.int (0 : Int32))] [(.int (1 : Int32)), (.int (own_b (¬ s3 = s5 ∧ ¬ s3 = s6 ∧ ¬ s3 = s7 ∧ ¬ s3 = s8)))]))
          refine Go.on (fun t k => XS.goto X15.here hx rfl (pc0 := 151) (pc' := 155) rfl (hb hby at_151) (by decide) (by decide) k) ?_
          show Go p.tables e below s _ _ _ (T15.setTop (mkF m 155 #[.val (.int p1), .val (.int ((p1 &&& (2147483647 : Int32)) % (10 : Int32))), .val (.ref s3), .val (.int (0 : Int32))] [(.int (1 : Int32)), (.int (own_b (¬ s3 = s5 ∧ ¬ s3 = s6 ∧ ¬ s3 = s7 ∧ ¬ s3 = s8)))]))
          refine Go.on (fun t k => XS.icmpNo X15.here hx rfl (hb hby at_155) rfl (teq (own_bt ⟨F_ordinal_s3.ne F_ordinal_s5 (by decide), F_ordinal_s3.ne F_ordinal_s6 (by decide), F_ordinal_s3.ne F_ordinal_s7 (by decide), F_ordinal_s3.ne F_ordinal_s8 (by decide)⟩)).2 k) ?_
          show Go p.tables e below s _ _ _ (T15.setTop (mkF m 158 #[.val (.int p1), .val (.int ((p1 &&& (2147483647 : Int32)) % (10 : Int32))), .val (.ref s3), .val (.int (0 : Int32))] []))
          refine Go.on (fun t k => XS.iconst X15.here hx rfl (hb hby at_158) k) ?_
          show Go p.tables e below s _ _ _ (T15.setTop (mkF m 159 #[.val (.int p1), .val (.int ((p1 &&& (2147483647 : Int32)) % (10 : Int32))), .val (.ref s3), .val (.int (0 : Int32))] [(.int (1 : Int32))]))
          refine Go.on (fun t k => XS.goto X15.here hx rfl (pc0 := 159) (pc' := 163) rfl (hb hby at_159) (by decide) (by decide) k) ?_
          show Go p.tables e below s _ _ _ (T15.setTop (mkF m 163 #[.val (.int p1), .val (.int ((p1 &&& (2147483647 : Int32)) % (10 : Int32))), .val (.ref s3), .val (.int (0 : Int32))] [(.int (1 : Int32))]))
          refine Go.retN X15 hx hlk (t := .boolean) Bd.returns (by simp) (hb hby at_163) (by decide) (by decide) e15 ?_
          exact ⟨rfl, Np16⟩
        · refine Go.on (fun t k => XS.icmpYes X0.here hx rfl (pc0 := 51) (pc' := 63) rfl (hb hby at_51) rfl (feq hc51_13).2 (by decide) (by decide) k) ?_
          show Go p.tables e below s _ _ _ (s₁.setTop (mkF m 63 #[.val (.int p1), .val (.int ((p1 &&& (2147483647 : Int32)) % (10 : Int32))), .unset, .unset] []))
          refine Go.on (fun t k => XS.iloadN X0.here hx rfl (hb hby at_63) rfl k) ?_
          show Go p.tables e below s _ _ _ (s₁.setTop (mkF m 64 #[.val (.int p1), .val (.int ((p1 &&& (2147483647 : Int32)) % (10 : Int32))), .unset, .unset] [(.int ((p1 &&& (2147483647 : Int32)) % (10 : Int32)))]))
          refine Go.on (fun t k => XS.iconst X0.here hx rfl (hb hby at_64) k) ?_
          show Go p.tables e below s _ _ _ (s₁.setTop (mkF m 65 #[.val (.int p1), .val (.int ((p1 &&& (2147483647 : Int32)) % (10 : Int32))), .unset, .unset] [(.int (4 : Int32)), (.int ((p1 &&& (2147483647 : Int32)) % (10 : Int32)))]))
          by_cases hc65_17 : ((p1 &&& (2147483647 : Int32)) % (10 : Int32)) = (4 : Int32)
          · refine Go.on (fun t k => XS.icmpNo X0.here hx rfl (hb hby at_65) rfl (teq hc65_17).2 k) ?_
            show Go p.tables e below s _ _ _ (s₁.setTop (mkF m 68 #[.val (.int p1), .val (.int ((p1 &&& (2147483647 : Int32)) % (10 : Int32))), .unset, .unset] []))
            obtain ⟨T18, X18, e18, st18⟩ := getS2 X0 hx hZ hown (host := "") (Or.inl (hw _ (List.mem_of_getElem? (i := 21) rfl))) Via.refl e0 Sta_MAX (g := (mkF m 68 #[.val (.int p1), .val (.int ((p1 &&& (2147483647 : Int32)) % (10 : Int32))), .unset, .unset] [])) rfl (hb hby at_68)
            refine Go.on st18 ?_
            show Go p.tables e below s _ _ _ (T18.setTop (mkF m 71 #[.val (.int p1), .val (.int ((p1 &&& (2147483647 : Int32)) % (10 : Int32))), .unset, .unset] [(.ref s4)]))
            refine Go.on (fun t k => XS.astoreN X18.here hx rfl (hb hby at_71) rfl rfl (l' := #[.val (.int p1), .val (.int ((p1 &&& (2147483647 : Int32)) % (10 : Int32))), .val (.ref s4), .unset]) rfl k) ?_
            show Go p.tables e below s _ _ _ (T18.setTop (mkF m 72 #[.val (.int p1), .val (.int ((p1 &&& (2147483647 : Int32)) % (10 : Int32))), .val (.ref s4), .unset] []))
            refine Go.on (fun t k => XS.iconst X18.here hx rfl (hb hby at_72) k) ?_
            show Go p.tables e below s _ _ _ (T18.setTop (mkF m 73 #[.val (.int p1), .val (.int ((p1 &&& (2147483647 : Int32)) % (10 : Int32))), .val (.ref s4), .unset] [(.int (0 : Int32))]))
            refine Go.on (fun t k => XS.istoreN X18.here hx rfl (hb hby at_73) rfl (l' := #[.val (.int p1), .val (.int ((p1 &&& (2147483647 : Int32)) % (10 : Int32))), .val (.ref s4), .val (.int (0 : Int32))]) rfl k) ?_
            show Go p.tables e below s _ _ _ (T18.setTop (mkF m 74 #[.val (.int p1), .val (.int ((p1 &&& (2147483647 : Int32)) % (10 : Int32))), .val (.ref s4), .val (.int (0 : Int32))] []))
            refine Go.on (fun t k => XS.goto X18.here hx rfl (pc0 := 74) (pc' := 142) rfl (hb hby at_74) (by decide) (by decide) k) ?_
            show Go p.tables e below s _ _ _ (T18.setTop (mkF m 142 #[.val (.int p1), .val (.int ((p1 &&& (2147483647 : Int32)) % (10 : Int32))), .val (.ref s4), .val (.int (0 : Int32))] []))
            refine Go.on (fun t k => XS.aloadN X18.here hx rfl (hb hby at_142) rfl rfl k) ?_
            show Go p.tables e below s _ _ _ (T18.setTop (mkF m 143 #[.val (.int p1), .val (.int ((p1 &&& (2147483647 : Int32)) % (10 : Int32))), .val (.ref s4), .val (.int (0 : Int32))] [(.ref s4)]))
            obtain ⟨cq19, kq19, q19a, q19b, q19c⟩ := isOf hZ e18 E_s4
            obtain ⟨_, _, ⟨T19, L19, k19, n19⟩, -, X19, ⟨Lc19, hQ19, l19, y19, z19⟩, st19⟩ := X18.virtualBack hx (y := (⟨"com/example/tidewell/tidewell/engine/Aggregate$Function", "takesDistinct", "()Z"⟩ : MethodName)) (z := (⟨"com/example/tidewell/tidewell/engine/Aggregate$Function", "takesDistinct", "()Z"⟩ : MethodName)) hown (mvT hZ (hw _ (List.mem_of_getElem? (i := 4) rfl))) (mvT hZ (hw _ (List.mem_of_getElem? (i := 5) rfl))) (notFace_of_selects (args := #[]) (mvT hZ (hw _ (List.mem_of_getElem? (i := 7) rfl)))) (mvT hZ (hw _ (List.mem_of_getElem? (i := 7) rfl))) (mvT hZ (hw _ (List.mem_of_getElem? (i := 6) rfl))) (by decide) (backOf (W := 0) (rm1 l Z a0 hw [] s4 s5 s6 s7 s8 h0 n0 Z0 Sta_FIRST Sta_LAST Sta_MIN_TIME Sta_MAX_TIME) hZ (hw _ (List.mem_of_getElem? (i := 8) rfl)) (hw _ (List.mem_of_getElem? (i := 2) rfl)) (by decide) (by decide)) q19a q19c (g := (mkF m 143 #[.val (.int p1), .val (.int ((p1 &&& (2147483647 : Int32)) % (10 : Int32))), .val (.ref s4), .val (.int (0 : Int32))] [(.ref s4)])) rfl (by rw [hml]; rfl) (Steps.refl _) (argsL := []) (rest := []) (lenOf pd__40__41_Z rfl) rfl (by show 2 * 0 + _ ≤ _; exact Nat.le_of_eq rfl) (hb hby at_143) (fun _ _ => ⟨rfl, e18, (by decide : 0 + 0 ≤ _), (by decide : 0 + 0 ≤ _)⟩)
            dsimp only [Pt.U, Pt.locs, Pt.cells, Pt.slots] at X19 l19 y19 z19 st19 hQ19
            rw [l19, y19, z19] at X19
            obtain ⟨rfl, Nq19, e19⟩ := hQ19
            have Np20 := Fr.app N0 Nq19
            refine Go.via st19 ?_
            show Go p.tables e below s _ _ _ (T19.setTop (mkF m 146 #[.val (.int p1), .val (.int ((p1 &&& (2147483647 : Int32)) % (10 : Int32))), .val (.ref s4), .val (.int (0 : Int32))] [(.int (own_b (¬ s4 = s5 ∧ ¬ s4 = s6 ∧ ¬ s4 = s7 ∧ ¬ s4 = s8)))]))
            refine Go.on (fun t k => XS.iloadN X19.here hx rfl (hb hby at_146) rfl k) ?_
            show Go p.tables e below s _ _ _ (T19.setTop (mkF m 147 #[.val (.int p1), .val (.int ((p1 &&& (2147483647 : Int32)) % (10 : Int32))), .val (.ref s4), .val (.int (0 : Int32))] [(.int (0 : Int32)), (.int (own_b (¬ s4 = s5 ∧ ¬ s4 = s6 ∧ ¬ s4 = s7 ∧ ¬ s4 = s8)))]))
            refine Go.on (fun t k => XS.ifNo X19.here hx rfl (hb hby at_147) rfl ((if0 _ _).trans (teq (by decide : (0 : Int32) = (0 : Int32))).2) k) ?_
            show Go p.tables e below s _ _ _ (T19.setTop (mkF m 150 #[.val (.int p1), .val (.int ((p1 &&& (2147483647 : Int32)) % (10 : Int32))), .val (.ref s4), .val (.int (0 : Int32))] [(.int (own_b (¬ s4 = s5 ∧ ¬ s4 = s6 ∧ ¬ s4 = s7 ∧ ¬ s4 = s8)))]))
            refine Go.on (fun t k => XS.iconst X19.here hx rfl (hb hby at_150) k) ?_
            show Go p.tables e below s _ _ _ (T19.setTop (mkF m 151 #[.val (.int p1), .val (.int ((p1 &&& (2147483647 : Int32)) % (10 : Int32))), .val (.ref s4), .val (.int (0 : Int32))] [(.int (1 : Int32)), (.int (own_b (¬ s4 = s5 ∧ ¬ s4 = s6 ∧ ¬ s4 = s7 ∧ ¬ s4 = s8)))]))
            refine Go.on (fun t k => XS.goto X19.here hx rfl (pc0 := 151) (pc' := 155) rfl (hb hby at_151) (by decide) (by decide) k) ?_
            show Go p.tables e below s _ _ _ (T19.setTop (mkF m 155 #[.val (.int p1), .val (.int ((p1 &&& (2147483647 : Int32)) % (10 : Int32))), .val (.ref s4), .val (.int (0 : Int32))] [(.int (1 : Int32)), (.int (own_b (¬ s4 = s5 ∧ ¬ s4 = s6 ∧ ¬ s4 = s7 ∧ ¬ s4 = s8)))]))
            refine Go.on (fun t k => XS.icmpNo X19.here hx rfl (hb hby at_155) rfl (teq (own_bt ⟨F_ordinal_s4.ne F_ordinal_s5 (by decide), F_ordinal_s4.ne F_ordinal_s6 (by decide), F_ordinal_s4.ne F_ordinal_s7 (by decide), F_ordinal_s4.ne F_ordinal_s8 (by decide)⟩)).2 k) ?_
            show Go p.tables e below s _ _ _ (T19.setTop (mkF m 158 #[.val (.int p1), .val (.int ((p1 &&& (2147483647 : Int32)) % (10 : Int32))), .val (.ref s4), .val (.int (0 : Int32))] []))
            refine Go.on (fun t k => XS.iconst X19.here hx rfl (hb hby at_158) k) ?_
            show Go p.tables e below s _ _ _ (T19.setTop (mkF m 159 #[.val (.int p1), .val (.int ((p1 &&& (2147483647 : Int32)) % (10 : Int32))), .val (.ref s4), .val (.int (0 : Int32))] [(.int (1 : Int32))]))
            refine Go.on (fun t k => XS.goto X19.here hx rfl (pc0 := 159) (pc' := 163) rfl (hb hby at_159) (by decide) (by decide) k) ?_
            show Go p.tables e below s _ _ _ (T19.setTop (mkF m 163 #[.val (.int p1), .val (.int ((p1 &&& (2147483647 : Int32)) % (10 : Int32))), .val (.ref s4), .val (.int (0 : Int32))] [(.int (1 : Int32))]))
            refine Go.retN X19 hx hlk (t := .boolean) Bd.returns (by simp) (hb hby at_163) (by decide) (by decide) e19 ?_
            exact ⟨rfl, Np20⟩
          · refine Go.on (fun t k => XS.icmpYes X0.here hx rfl (pc0 := 65) (pc' := 77) rfl (hb hby at_65) rfl (feq hc65_17).2 (by decide) (by decide) k) ?_
            show Go p.tables e below s _ _ _ (s₁.setTop (mkF m 77 #[.val (.int p1), .val (.int ((p1 &&& (2147483647 : Int32)) % (10 : Int32))), .unset, .unset] []))
            refine Go.on (fun t k => XS.iloadN X0.here hx rfl (hb hby at_77) rfl k) ?_
            show Go p.tables e below s _ _ _ (s₁.setTop (mkF m 78 #[.val (.int p1), .val (.int ((p1 &&& (2147483647 : Int32)) % (10 : Int32))), .unset, .unset] [(.int ((p1 &&& (2147483647 : Int32)) % (10 : Int32)))]))
            refine Go.on (fun t k => XS.iconst X0.here hx rfl (hb hby at_78) k) ?_
            show Go p.tables e below s _ _ _ (s₁.setTop (mkF m 79 #[.val (.int p1), .val (.int ((p1 &&& (2147483647 : Int32)) % (10 : Int32))), .unset, .unset] [(.int (5 : Int32)), (.int ((p1 &&& (2147483647 : Int32)) % (10 : Int32)))]))
            by_cases hc79_21 : ((p1 &&& (2147483647 : Int32)) % (10 : Int32)) = (5 : Int32)
            · refine Go.on (fun t k => XS.icmpNo X0.here hx rfl (hb hby at_79) rfl (teq hc79_21).2 k) ?_
              show Go p.tables e below s _ _ _ (s₁.setTop (mkF m 82 #[.val (.int p1), .val (.int ((p1 &&& (2147483647 : Int32)) % (10 : Int32))), .unset, .unset] []))
              obtain ⟨T22, X22, e22, st22⟩ := getS2 X0 hx hZ hown (host := "") (Or.inl (hw _ (List.mem_of_getElem? (i := 29) rfl))) Via.refl e0 Sta_FIRST (g := (mkF m 82 #[.val (.int p1), .val (.int ((p1 &&& (2147483647 : Int32)) % (10 : Int32))), .unset, .unset] [])) rfl (hb hby at_82)
              refine Go.on st22 ?_
              show Go p.tables e below s _ _ _ (T22.setTop (mkF m 85 #[.val (.int p1), .val (.int ((p1 &&& (2147483647 : Int32)) % (10 : Int32))), .unset, .unset] [(.ref s5)]))
              refine Go.on (fun t k => XS.astoreN X22.here hx rfl (hb hby at_85) rfl rfl (l' := #[.val (.int p1), .val (.int ((p1 &&& (2147483647 : Int32)) % (10 : Int32))), .val (.ref s5), .unset]) rfl k) ?_
              show Go p.tables e below s _ _ _ (T22.setTop (mkF m 86 #[.val (.int p1), .val (.int ((p1 &&& (2147483647 : Int32)) % (10 : Int32))), .val (.ref s5), .unset] []))
              refine Go.on (fun t k => XS.iconst X22.here hx rfl (hb hby at_86) k) ?_
              show Go p.tables e below s _ _ _ (T22.setTop (mkF m 87 #[.val (.int p1), .val (.int ((p1 &&& (2147483647 : Int32)) % (10 : Int32))), .val (.ref s5), .unset] [(.int (1 : Int32))]))
              refine Go.on (fun t k => XS.istoreN X22.here hx rfl (hb hby at_87) rfl (l' := #[.val (.int p1), .val (.int ((p1 &&& (2147483647 : Int32)) % (10 : Int32))), .val (.ref s5), .val (.int (1 : Int32))]) rfl k) ?_
              show Go p.tables e below s _ _ _ (T22.setTop (mkF m 88 #[.val (.int p1), .val (.int ((p1 &&& (2147483647 : Int32)) % (10 : Int32))), .val (.ref s5), .val (.int (1 : Int32))] []))
              refine Go.on (fun t k => XS.goto X22.here hx rfl (pc0 := 88) (pc' := 142) rfl (hb hby at_88) (by decide) (by decide) k) ?_
              show Go p.tables e below s _ _ _ (T22.setTop (mkF m 142 #[.val (.int p1), .val (.int ((p1 &&& (2147483647 : Int32)) % (10 : Int32))), .val (.ref s5), .val (.int (1 : Int32))] []))
              refine Go.on (fun t k => XS.aloadN X22.here hx rfl (hb hby at_142) rfl rfl k) ?_
              show Go p.tables e below s _ _ _ (T22.setTop (mkF m 143 #[.val (.int p1), .val (.int ((p1 &&& (2147483647 : Int32)) % (10 : Int32))), .val (.ref s5), .val (.int (1 : Int32))] [(.ref s5)]))
              obtain ⟨cq23, kq23, q23a, q23b, q23c⟩ := isOf hZ e22 E_s5
              obtain ⟨_, _, ⟨T23, L23, k23, n23⟩, -, X23, ⟨Lc23, hQ23, l23, y23, z23⟩, st23⟩ := X22.virtualBack hx (y := (⟨"com/example/tidewell/tidewell/engine/Aggregate$Function", "takesDistinct", "()Z"⟩ : MethodName)) (z := (⟨"com/example/tidewell/tidewell/engine/Aggregate$Function", "takesDistinct", "()Z"⟩ : MethodName)) hown (mvT hZ (hw _ (List.mem_of_getElem? (i := 4) rfl))) (mvT hZ (hw _ (List.mem_of_getElem? (i := 5) rfl))) (notFace_of_selects (args := #[]) (mvT hZ (hw _ (List.mem_of_getElem? (i := 7) rfl)))) (mvT hZ (hw _ (List.mem_of_getElem? (i := 7) rfl))) (mvT hZ (hw _ (List.mem_of_getElem? (i := 6) rfl))) (by decide) (backOf (W := 0) (rm1 l Z a0 hw [] s5 s5 s6 s7 s8 h0 n0 Z0 Sta_FIRST Sta_LAST Sta_MIN_TIME Sta_MAX_TIME) hZ (hw _ (List.mem_of_getElem? (i := 8) rfl)) (hw _ (List.mem_of_getElem? (i := 2) rfl)) (by decide) (by decide)) q23a q23c (g := (mkF m 143 #[.val (.int p1), .val (.int ((p1 &&& (2147483647 : Int32)) % (10 : Int32))), .val (.ref s5), .val (.int (1 : Int32))] [(.ref s5)])) rfl (by rw [hml]; rfl) (Steps.refl _) (argsL := []) (rest := []) (lenOf pd__40__41_Z rfl) rfl (by show 2 * 0 + _ ≤ _; exact Nat.le_of_eq rfl) (hb hby at_143) (fun _ _ => ⟨rfl, e22, (by decide : 0 + 0 ≤ _), (by decide : 0 + 0 ≤ _)⟩)
              dsimp only [Pt.U, Pt.locs, Pt.cells, Pt.slots] at X23 l23 y23 z23 st23 hQ23
              rw [l23, y23, z23] at X23
              obtain ⟨rfl, Nq23, e23⟩ := hQ23
              have Np24 := Fr.app N0 Nq23
              refine Go.via st23 ?_
              show Go p.tables e below s _ _ _ (T23.setTop (mkF m 146 #[.val (.int p1), .val (.int ((p1 &&& (2147483647 : Int32)) % (10 : Int32))), .val (.ref s5), .val (.int (1 : Int32))] [(.int (own_b (¬ s5 = s5 ∧ ¬ s5 = s6 ∧ ¬ s5 = s7 ∧ ¬ s5 = s8)))]))
              refine Go.on (fun t k => XS.iloadN X23.here hx rfl (hb hby at_146) rfl k) ?_
              show Go p.tables e below s _ _ _ (T23.setTop (mkF m 147 #[.val (.int p1), .val (.int ((p1 &&& (2147483647 : Int32)) % (10 : Int32))), .val (.ref s5), .val (.int (1 : Int32))] [(.int (1 : Int32)), (.int (own_b (¬ s5 = s5 ∧ ¬ s5 = s6 ∧ ¬ s5 = s7 ∧ ¬ s5 = s8)))]))
              refine Go.on (fun t k => XS.ifYes X23.here hx rfl (pc0 := 147) (pc' := 154) rfl (hb hby at_147) rfl ((if0 _ _).trans (feq (by decide : ¬ ((1 : Int32) = (0 : Int32)))).2) (by decide) (by decide) k) ?_
              show Go p.tables e below s _ _ _ (T23.setTop (mkF m 154 #[.val (.int p1), .val (.int ((p1 &&& (2147483647 : Int32)) % (10 : Int32))), .val (.ref s5), .val (.int (1 : Int32))] [(.int (own_b (¬ s5 = s5 ∧ ¬ s5 = s6 ∧ ¬ s5 = s7 ∧ ¬ s5 = s8)))]))
              refine Go.on (fun t k => XS.iconst X23.here hx rfl (hb hby at_154) k) ?_
              show Go p.tables e below s _ _ _ (T23.setTop (mkF m 155 #[.val (.int p1), .val (.int ((p1 &&& (2147483647 : Int32)) % (10 : Int32))), .val (.ref s5), .val (.int (1 : Int32))] [(.int (0 : Int32)), (.int (own_b (¬ s5 = s5 ∧ ¬ s5 = s6 ∧ ¬ s5 = s7 ∧ ¬ s5 = s8)))]))
              refine Go.on (fun t k => XS.icmpNo X23.here hx rfl (hb hby at_155) rfl (teq (own_bf fun q => q.1 rfl)).2 k) ?_
              show Go p.tables e below s _ _ _ (T23.setTop (mkF m 158 #[.val (.int p1), .val (.int ((p1 &&& (2147483647 : Int32)) % (10 : Int32))), .val (.ref s5), .val (.int (1 : Int32))] []))
              refine Go.on (fun t k => XS.iconst X23.here hx rfl (hb hby at_158) k) ?_
              show Go p.tables e below s _ _ _ (T23.setTop (mkF m 159 #[.val (.int p1), .val (.int ((p1 &&& (2147483647 : Int32)) % (10 : Int32))), .val (.ref s5), .val (.int (1 : Int32))] [(.int (1 : Int32))]))
              refine Go.on (fun t k => XS.goto X23.here hx rfl (pc0 := 159) (pc' := 163) rfl (hb hby at_159) (by decide) (by decide) k) ?_
              show Go p.tables e below s _ _ _ (T23.setTop (mkF m 163 #[.val (.int p1), .val (.int ((p1 &&& (2147483647 : Int32)) % (10 : Int32))), .val (.ref s5), .val (.int (1 : Int32))] [(.int (1 : Int32))]))
              refine Go.retN X23 hx hlk (t := .boolean) Bd.returns (by simp) (hb hby at_163) (by decide) (by decide) e23 ?_
              exact ⟨rfl, Np24⟩
            · refine Go.on (fun t k => XS.icmpYes X0.here hx rfl (pc0 := 79) (pc' := 91) rfl (hb hby at_79) rfl (feq hc79_21).2 (by decide) (by decide) k) ?_
              show Go p.tables e below s _ _ _ (s₁.setTop (mkF m 91 #[.val (.int p1), .val (.int ((p1 &&& (2147483647 : Int32)) % (10 : Int32))), .unset, .unset] []))
              refine Go.on (fun t k => XS.iloadN X0.here hx rfl (hb hby at_91) rfl k) ?_
              show Go p.tables e below s _ _ _ (s₁.setTop (mkF m 92 #[.val (.int p1), .val (.int ((p1 &&& (2147483647 : Int32)) % (10 : Int32))), .unset, .unset] [(.int ((p1 &&& (2147483647 : Int32)) % (10 : Int32)))]))
              refine Go.on (fun t k => XS.bipush X0.here hx rfl (hb hby at_92) k) ?_
              show Go p.tables e below s _ _ _ (s₁.setTop (mkF m 94 #[.val (.int p1), .val (.int ((p1 &&& (2147483647 : Int32)) % (10 : Int32))), .unset, .unset] [(.int (6 : Int32)), (.int ((p1 &&& (2147483647 : Int32)) % (10 : Int32)))]))
              by_cases hc94_25 : ((p1 &&& (2147483647 : Int32)) % (10 : Int32)) = (6 : Int32)
              · refine Go.on (fun t k => XS.icmpNo X0.here hx rfl (hb hby at_94) rfl (teq hc94_25).2 k) ?_
                show Go p.tables e below s _ _ _ (s₁.setTop (mkF m 97 #[.val (.int p1), .val (.int ((p1 &&& (2147483647 : Int32)) % (10 : Int32))), .unset, .unset] []))
                obtain ⟨T26, X26, e26, st26⟩ := getS2 X0 hx hZ hown (host := "") (Or.inl (hw _ (List.mem_of_getElem? (i := 30) rfl))) Via.refl e0 Sta_LAST (g := (mkF m 97 #[.val (.int p1), .val (.int ((p1 &&& (2147483647 : Int32)) % (10 : Int32))), .unset, .unset] [])) rfl (hb hby at_97)
                refine Go.on st26 ?_
                show Go p.tables e below s _ _ _ (T26.setTop (mkF m 100 #[.val (.int p1), .val (.int ((p1 &&& (2147483647 : Int32)) % (10 : Int32))), .unset, .unset] [(.ref s6)]))
                refine Go.on (fun t k => XS.astoreN X26.here hx rfl (hb hby at_100) rfl rfl (l' := #[.val (.int p1), .val (.int ((p1 &&& (2147483647 : Int32)) % (10 : Int32))), .val (.ref s6), .unset]) rfl k) ?_
                show Go p.tables e below s _ _ _ (T26.setTop (mkF m 101 #[.val (.int p1), .val (.int ((p1 &&& (2147483647 : Int32)) % (10 : Int32))), .val (.ref s6), .unset] []))
                refine Go.on (fun t k => XS.iconst X26.here hx rfl (hb hby at_101) k) ?_
                show Go p.tables e below s _ _ _ (T26.setTop (mkF m 102 #[.val (.int p1), .val (.int ((p1 &&& (2147483647 : Int32)) % (10 : Int32))), .val (.ref s6), .unset] [(.int (1 : Int32))]))
                refine Go.on (fun t k => XS.istoreN X26.here hx rfl (hb hby at_102) rfl (l' := #[.val (.int p1), .val (.int ((p1 &&& (2147483647 : Int32)) % (10 : Int32))), .val (.ref s6), .val (.int (1 : Int32))]) rfl k) ?_
                show Go p.tables e below s _ _ _ (T26.setTop (mkF m 103 #[.val (.int p1), .val (.int ((p1 &&& (2147483647 : Int32)) % (10 : Int32))), .val (.ref s6), .val (.int (1 : Int32))] []))
                refine Go.on (fun t k => XS.goto X26.here hx rfl (pc0 := 103) (pc' := 142) rfl (hb hby at_103) (by decide) (by decide) k) ?_
                show Go p.tables e below s _ _ _ (T26.setTop (mkF m 142 #[.val (.int p1), .val (.int ((p1 &&& (2147483647 : Int32)) % (10 : Int32))), .val (.ref s6), .val (.int (1 : Int32))] []))
                refine Go.on (fun t k => XS.aloadN X26.here hx rfl (hb hby at_142) rfl rfl k) ?_
                show Go p.tables e below s _ _ _ (T26.setTop (mkF m 143 #[.val (.int p1), .val (.int ((p1 &&& (2147483647 : Int32)) % (10 : Int32))), .val (.ref s6), .val (.int (1 : Int32))] [(.ref s6)]))
                obtain ⟨cq27, kq27, q27a, q27b, q27c⟩ := isOf hZ e26 E_s6
                obtain ⟨_, _, ⟨T27, L27, k27, n27⟩, -, X27, ⟨Lc27, hQ27, l27, y27, z27⟩, st27⟩ := X26.virtualBack hx (y := (⟨"com/example/tidewell/tidewell/engine/Aggregate$Function", "takesDistinct", "()Z"⟩ : MethodName)) (z := (⟨"com/example/tidewell/tidewell/engine/Aggregate$Function", "takesDistinct", "()Z"⟩ : MethodName)) hown (mvT hZ (hw _ (List.mem_of_getElem? (i := 4) rfl))) (mvT hZ (hw _ (List.mem_of_getElem? (i := 5) rfl))) (notFace_of_selects (args := #[]) (mvT hZ (hw _ (List.mem_of_getElem? (i := 7) rfl)))) (mvT hZ (hw _ (List.mem_of_getElem? (i := 7) rfl))) (mvT hZ (hw _ (List.mem_of_getElem? (i := 6) rfl))) (by decide) (backOf (W := 0) (rm1 l Z a0 hw [] s6 s5 s6 s7 s8 h0 n0 Z0 Sta_FIRST Sta_LAST Sta_MIN_TIME Sta_MAX_TIME) hZ (hw _ (List.mem_of_getElem? (i := 8) rfl)) (hw _ (List.mem_of_getElem? (i := 2) rfl)) (by decide) (by decide)) q27a q27c (g := (mkF m 143 #[.val (.int p1), .val (.int ((p1 &&& (2147483647 : Int32)) % (10 : Int32))), .val (.ref s6), .val (.int (1 : Int32))] [(.ref s6)])) rfl (by rw [hml]; rfl) (Steps.refl _) (argsL := []) (rest := []) (lenOf pd__40__41_Z rfl) rfl (by show 2 * 0 + _ ≤ _; exact Nat.le_of_eq rfl) (hb hby at_143) (fun _ _ => ⟨rfl, e26, (by decide : 0 + 0 ≤ _), (by decide : 0 + 0 ≤ _)⟩)
                dsimp only [Pt.U, Pt.locs, Pt.cells, Pt.slots] at X27 l27 y27 z27 st27 hQ27
                rw [l27, y27, z27] at X27
                obtain ⟨rfl, Nq27, e27⟩ := hQ27
                have Np28 := Fr.app N0 Nq27
                refine Go.via st27 ?_
                show Go p.tables e below s _ _ _ (T27.setTop (mkF m 146 #[.val (.int p1), .val (.int ((p1 &&& (2147483647 : Int32)) % (10 : Int32))), .val (.ref s6), .val (.int (1 : Int32))] [(.int (own_b (¬ s6 = s5 ∧ ¬ s6 = s6 ∧ ¬ s6 = s7 ∧ ¬ s6 = s8)))]))
                refine Go.on (fun t k => XS.iloadN X27.here hx rfl (hb hby at_146) rfl k) ?_
                show Go p.tables e below s _ _ _ (T27.setTop (mkF m 147 #[.val (.int p1), .val (.int ((p1 &&& (2147483647 : Int32)) % (10 : Int32))), .val (.ref s6), .val (.int (1 : Int32))] [(.int (1 : Int32)), (.int (own_b (¬ s6 = s5 ∧ ¬ s6 = s6 ∧ ¬ s6 = s7 ∧ ¬ s6 = s8)))]))
                refine Go.on (fun t k => XS.ifYes X27.here hx rfl (pc0 := 147) (pc' := 154) rfl (hb hby at_147) rfl ((if0 _ _).trans (feq (by decide : ¬ ((1 : Int32) = (0 : Int32)))).2) (by decide) (by decide) k) ?_
                show Go p.tables e below s _ _ _ (T27.setTop (mkF m 154 #[.val (.int p1), .val (.int ((p1 &&& (2147483647 : Int32)) % (10 : Int32))), .val (.ref s6), .val (.int (1 : Int32))] [(.int (own_b (¬ s6 = s5 ∧ ¬ s6 = s6 ∧ ¬ s6 = s7 ∧ ¬ s6 = s8)))]))
                refine Go.on (fun t k => XS.iconst X27.here hx rfl (hb hby at_154) k) ?_
                show Go p.tables e below s _ _ _ (T27.setTop (mkF m 155 #[.val (.int p1), .val (.int ((p1 &&& (2147483647 : Int32)) % (10 : Int32))), .val (.ref s6), .val (.int (1 : Int32))] [(.int (0 : Int32)), (.int (own_b (¬ s6 = s5 ∧ ¬ s6 = s6 ∧ ¬ s6 = s7 ∧ ¬ s6 = s8)))]))
                refine Go.on (fun t k => XS.icmpNo X27.here hx rfl (hb hby at_155) rfl (teq (own_bf fun q => q.2.1 rfl)).2 k) ?_
                show Go p.tables e below s _ _ _ (T27.setTop (mkF m 158 #[.val (.int p1), .val (.int ((p1 &&& (2147483647 : Int32)) % (10 : Int32))), .val (.ref s6), .val (.int (1 : Int32))] []))
                refine Go.on (fun t k => XS.iconst X27.here hx rfl (hb hby at_158) k) ?_
                show Go p.tables e below s _ _ _ (T27.setTop (mkF m 159 #[.val (.int p1), .val (.int ((p1 &&& (2147483647 : Int32)) % (10 : Int32))), .val (.ref s6), .val (.int (1 : Int32))] [(.int (1 : Int32))]))
                refine Go.on (fun t k => XS.goto X27.here hx rfl (pc0 := 159) (pc' := 163) rfl (hb hby at_159) (by decide) (by decide) k) ?_
                show Go p.tables e below s _ _ _ (T27.setTop (mkF m 163 #[.val (.int p1), .val (.int ((p1 &&& (2147483647 : Int32)) % (10 : Int32))), .val (.ref s6), .val (.int (1 : Int32))] [(.int (1 : Int32))]))
                refine Go.retN X27 hx hlk (t := .boolean) Bd.returns (by simp) (hb hby at_163) (by decide) (by decide) e27 ?_
                exact ⟨rfl, Np28⟩
              · refine Go.on (fun t k => XS.icmpYes X0.here hx rfl (pc0 := 94) (pc' := 106) rfl (hb hby at_94) rfl (feq hc94_25).2 (by decide) (by decide) k) ?_
                show Go p.tables e below s _ _ _ (s₁.setTop (mkF m 106 #[.val (.int p1), .val (.int ((p1 &&& (2147483647 : Int32)) % (10 : Int32))), .unset, .unset] []))
                refine Go.on (fun t k => XS.iloadN X0.here hx rfl (hb hby at_106) rfl k) ?_
                show Go p.tables e below s _ _ _ (s₁.setTop (mkF m 107 #[.val (.int p1), .val (.int ((p1 &&& (2147483647 : Int32)) % (10 : Int32))), .unset, .unset] [(.int ((p1 &&& (2147483647 : Int32)) % (10 : Int32)))]))
                refine Go.on (fun t k => XS.bipush X0.here hx rfl (hb hby at_107) k) ?_
                show Go p.tables e below s _ _ _ (s₁.setTop (mkF m 109 #[.val (.int p1), .val (.int ((p1 &&& (2147483647 : Int32)) % (10 : Int32))), .unset, .unset] [(.int (7 : Int32)), (.int ((p1 &&& (2147483647 : Int32)) % (10 : Int32)))]))
                by_cases hc109_29 : ((p1 &&& (2147483647 : Int32)) % (10 : Int32)) = (7 : Int32)
                · refine Go.on (fun t k => XS.icmpNo X0.here hx rfl (hb hby at_109) rfl (teq hc109_29).2 k) ?_
                  show Go p.tables e below s _ _ _ (s₁.setTop (mkF m 112 #[.val (.int p1), .val (.int ((p1 &&& (2147483647 : Int32)) % (10 : Int32))), .unset, .unset] []))
                  obtain ⟨T30, X30, e30, st30⟩ := getS2 X0 hx hZ hown (host := "") (Or.inl (hw _ (List.mem_of_getElem? (i := 23) rfl))) Via.refl e0 Sta_MIN_TIME (g := (mkF m 112 #[.val (.int p1), .val (.int ((p1 &&& (2147483647 : Int32)) % (10 : Int32))), .unset, .unset] [])) rfl (hb hby at_112)
                  refine Go.on st30 ?_
                  show Go p.tables e below s _ _ _ (T30.setTop (mkF m 115 #[.val (.int p1), .val (.int ((p1 &&& (2147483647 : Int32)) % (10 : Int32))), .unset, .unset] [(.ref s7)]))
                  refine Go.on (fun t k => XS.astoreN X30.here hx rfl (hb hby at_115) rfl rfl (l' := #[.val (.int p1), .val (.int ((p1 &&& (2147483647 : Int32)) % (10 : Int32))), .val (.ref s7), .unset]) rfl k) ?_
                  show Go p.tables e below s _ _ _ (T30.setTop (mkF m 116 #[.val (.int p1), .val (.int ((p1 &&& (2147483647 : Int32)) % (10 : Int32))), .val (.ref s7), .unset] []))
                  refine Go.on (fun t k => XS.iconst X30.here hx rfl (hb hby at_116) k) ?_
                  show Go p.tables e below s _ _ _ (T30.setTop (mkF m 117 #[.val (.int p1), .val (.int ((p1 &&& (2147483647 : Int32)) % (10 : Int32))), .val (.ref s7), .unset] [(.int (1 : Int32))]))
                  refine Go.on (fun t k => XS.istoreN X30.here hx rfl (hb hby at_117) rfl (l' := #[.val (.int p1), .val (.int ((p1 &&& (2147483647 : Int32)) % (10 : Int32))), .val (.ref s7), .val (.int (1 : Int32))]) rfl k) ?_
                  show Go p.tables e below s _ _ _ (T30.setTop (mkF m 118 #[.val (.int p1), .val (.int ((p1 &&& (2147483647 : Int32)) % (10 : Int32))), .val (.ref s7), .val (.int (1 : Int32))] []))
                  refine Go.on (fun t k => XS.goto X30.here hx rfl (pc0 := 118) (pc' := 142) rfl (hb hby at_118) (by decide) (by decide) k) ?_
                  show Go p.tables e below s _ _ _ (T30.setTop (mkF m 142 #[.val (.int p1), .val (.int ((p1 &&& (2147483647 : Int32)) % (10 : Int32))), .val (.ref s7), .val (.int (1 : Int32))] []))
                  refine Go.on (fun t k => XS.aloadN X30.here hx rfl (hb hby at_142) rfl rfl k) ?_
                  show Go p.tables e below s _ _ _ (T30.setTop (mkF m 143 #[.val (.int p1), .val (.int ((p1 &&& (2147483647 : Int32)) % (10 : Int32))), .val (.ref s7), .val (.int (1 : Int32))] [(.ref s7)]))
                  obtain ⟨cq31, kq31, q31a, q31b, q31c⟩ := isOf hZ e30 E_s7
                  obtain ⟨_, _, ⟨T31, L31, k31, n31⟩, -, X31, ⟨Lc31, hQ31, l31, y31, z31⟩, st31⟩ := X30.virtualBack hx (y := (⟨"com/example/tidewell/tidewell/engine/Aggregate$Function", "takesDistinct", "()Z"⟩ : MethodName)) (z := (⟨"com/example/tidewell/tidewell/engine/Aggregate$Function", "takesDistinct", "()Z"⟩ : MethodName)) hown (mvT hZ (hw _ (List.mem_of_getElem? (i := 4) rfl))) (mvT hZ (hw _ (List.mem_of_getElem? (i := 5) rfl))) (notFace_of_selects (args := #[]) (mvT hZ (hw _ (List.mem_of_getElem? (i := 7) rfl)))) (mvT hZ (hw _ (List.mem_of_getElem? (i := 7) rfl))) (mvT hZ (hw _ (List.mem_of_getElem? (i := 6) rfl))) (by decide) (backOf (W := 0) (rm1 l Z a0 hw [] s7 s5 s6 s7 s8 h0 n0 Z0 Sta_FIRST Sta_LAST Sta_MIN_TIME Sta_MAX_TIME) hZ (hw _ (List.mem_of_getElem? (i := 8) rfl)) (hw _ (List.mem_of_getElem? (i := 2) rfl)) (by decide) (by decide)) q31a q31c (g := (mkF m 143 #[.val (.int p1), .val (.int ((p1 &&& (2147483647 : Int32)) % (10 : Int32))), .val (.ref s7), .val (.int (1 : Int32))] [(.ref s7)])) rfl (by rw [hml]; rfl) (Steps.refl _) (argsL := []) (rest := []) (lenOf pd__40__41_Z rfl) rfl (by show 2 * 0 + _ ≤ _; exact Nat.le_of_eq rfl) (hb hby at_143) (fun _ _ => ⟨rfl, e30, (by decide : 0 + 0 ≤ _), (by decide : 0 + 0 ≤ _)⟩)
                  dsimp only [Pt.U, Pt.locs, Pt.cells, Pt.slots] at X31 l31 y31 z31 st31 hQ31
                  rw [l31, y31, z31] at X31
                  obtain ⟨rfl, Nq31, e31⟩ := hQ31
                  have Np32 := Fr.app N0 Nq31
                  refine Go.via st31 ?_
                  show Go p.tables e below s _ _ _ (T31.setTop (mkF m 146 #[.val (.int p1), .val (.int ((p1 &&& (2147483647 : Int32)) % (10 : Int32))), .val (.ref s7), .val (.int (1 : Int32))] [(.int (own_b (¬ s7 = s5 ∧ ¬ s7 = s6 ∧ ¬ s7 = s7 ∧ ¬ s7 = s8)))]))
                  refine Go.on (fun t k => XS.iloadN X31.here hx rfl (hb hby at_146) rfl k) ?_
                  show Go p.tables e below s _ _ _ (T31.setTop (mkF m 147 #[.val (.int p1), .val (.int ((p1 &&& (2147483647 : Int32)) % (10 : Int32))), .val (.ref s7), .val (.int (1 : Int32))] [(.int (1 : Int32)), (.int (own_b (¬ s7 = s5 ∧ ¬ s7 = s6 ∧ ¬ s7 = s7 ∧ ¬ s7 = s8)))]))
                  refine Go.on (fun t k => XS.ifYes X31.here hx rfl (pc0 := 147) (pc' := 154) rfl (hb hby at_147) rfl ((if0 _ _).trans (feq (by decide : ¬ ((1 : Int32) = (0 : Int32)))).2) (by decide) (by decide) k) ?_
                  show Go p.tables e below s _ _ _ (T31.setTop (mkF m 154 #[.val (.int p1), .val (.int ((p1 &&& (2147483647 : Int32)) % (10 : Int32))), .val (.ref s7), .val (.int (1 : Int32))] [(.int (own_b (¬ s7 = s5 ∧ ¬ s7 = s6 ∧ ¬ s7 = s7 ∧ ¬ s7 = s8)))]))
                  refine Go.on (fun t k => XS.iconst X31.here hx rfl (hb hby at_154) k) ?_
                  show Go p.tables e below s _ _ _ (T31.setTop (mkF m 155 #[.val (.int p1), .val (.int ((p1 &&& (2147483647 : Int32)) % (10 : Int32))), .val (.ref s7), .val (.int (1 : Int32))] [(.int (0 : Int32)), (.int (own_b (¬ s7 = s5 ∧ ¬ s7 = s6 ∧ ¬ s7 = s7 ∧ ¬ s7 = s8)))]))
                  refine Go.on (fun t k => XS.icmpNo X31.here hx rfl (hb hby at_155) rfl (teq (own_bf fun q => q.2.2.1 rfl)).2 k) ?_
                  show Go p.tables e below s _ _ _ (T31.setTop (mkF m 158 #[.val (.int p1), .val (.int ((p1 &&& (2147483647 : Int32)) % (10 : Int32))), .val (.ref s7), .val (.int (1 : Int32))] []))
                  refine Go.on (fun t k => XS.iconst X31.here hx rfl (hb hby at_158) k) ?_
                  show Go p.tables e below s _ _ _ (T31.setTop (mkF m 159 #[.val (.int p1), .val (.int ((p1 &&& (2147483647 : Int32)) % (10 : Int32))), .val (.ref s7), .val (.int (1 : Int32))] [(.int (1 : Int32))]))
                  refine Go.on (fun t k => XS.goto X31.here hx rfl (pc0 := 159) (pc' := 163) rfl (hb hby at_159) (by decide) (by decide) k) ?_
                  show Go p.tables e below s _ _ _ (T31.setTop (mkF m 163 #[.val (.int p1), .val (.int ((p1 &&& (2147483647 : Int32)) % (10 : Int32))), .val (.ref s7), .val (.int (1 : Int32))] [(.int (1 : Int32))]))
                  refine Go.retN X31 hx hlk (t := .boolean) Bd.returns (by simp) (hb hby at_163) (by decide) (by decide) e31 ?_
                  exact ⟨rfl, Np32⟩
                · refine Go.on (fun t k => XS.icmpYes X0.here hx rfl (pc0 := 109) (pc' := 121) rfl (hb hby at_109) rfl (feq hc109_29).2 (by decide) (by decide) k) ?_
                  show Go p.tables e below s _ _ _ (s₁.setTop (mkF m 121 #[.val (.int p1), .val (.int ((p1 &&& (2147483647 : Int32)) % (10 : Int32))), .unset, .unset] []))
                  refine Go.on (fun t k => XS.iloadN X0.here hx rfl (hb hby at_121) rfl k) ?_
                  show Go p.tables e below s _ _ _ (s₁.setTop (mkF m 122 #[.val (.int p1), .val (.int ((p1 &&& (2147483647 : Int32)) % (10 : Int32))), .unset, .unset] [(.int ((p1 &&& (2147483647 : Int32)) % (10 : Int32)))]))
                  refine Go.on (fun t k => XS.bipush X0.here hx rfl (hb hby at_122) k) ?_
                  show Go p.tables e below s _ _ _ (s₁.setTop (mkF m 124 #[.val (.int p1), .val (.int ((p1 &&& (2147483647 : Int32)) % (10 : Int32))), .unset, .unset] [(.int (8 : Int32)), (.int ((p1 &&& (2147483647 : Int32)) % (10 : Int32)))]))
                  by_cases hc124_33 : ((p1 &&& (2147483647 : Int32)) % (10 : Int32)) = (8 : Int32)
                  · refine Go.on (fun t k => XS.icmpNo X0.here hx rfl (hb hby at_124) rfl (teq hc124_33).2 k) ?_
                    show Go p.tables e below s _ _ _ (s₁.setTop (mkF m 127 #[.val (.int p1), .val (.int ((p1 &&& (2147483647 : Int32)) % (10 : Int32))), .unset, .unset] []))
                    obtain ⟨T34, X34, e34, st34⟩ := getS2 X0 hx hZ hown (host := "") (Or.inl (hw _ (List.mem_of_getElem? (i := 26) rfl))) Via.refl e0 Sta_MAX_TIME (g := (mkF m 127 #[.val (.int p1), .val (.int ((p1 &&& (2147483647 : Int32)) % (10 : Int32))), .unset, .unset] [])) rfl (hb hby at_127)
                    refine Go.on st34 ?_
                    show Go p.tables e below s _ _ _ (T34.setTop (mkF m 130 #[.val (.int p1), .val (.int ((p1 &&& (2147483647 : Int32)) % (10 : Int32))), .unset, .unset] [(.ref s8)]))
                    refine Go.on (fun t k => XS.astoreN X34.here hx rfl (hb hby at_130) rfl rfl (l' := #[.val (.int p1), .val (.int ((p1 &&& (2147483647 : Int32)) % (10 : Int32))), .val (.ref s8), .unset]) rfl k) ?_
                    show Go p.tables e below s _ _ _ (T34.setTop (mkF m 131 #[.val (.int p1), .val (.int ((p1 &&& (2147483647 : Int32)) % (10 : Int32))), .val (.ref s8), .unset] []))
                    refine Go.on (fun t k => XS.iconst X34.here hx rfl (hb hby at_131) k) ?_
                    show Go p.tables e below s _ _ _ (T34.setTop (mkF m 132 #[.val (.int p1), .val (.int ((p1 &&& (2147483647 : Int32)) % (10 : Int32))), .val (.ref s8), .unset] [(.int (1 : Int32))]))
                    refine Go.on (fun t k => XS.istoreN X34.here hx rfl (hb hby at_132) rfl (l' := #[.val (.int p1), .val (.int ((p1 &&& (2147483647 : Int32)) % (10 : Int32))), .val (.ref s8), .val (.int (1 : Int32))]) rfl k) ?_
                    show Go p.tables e below s _ _ _ (T34.setTop (mkF m 133 #[.val (.int p1), .val (.int ((p1 &&& (2147483647 : Int32)) % (10 : Int32))), .val (.ref s8), .val (.int (1 : Int32))] []))
                    refine Go.on (fun t k => XS.goto X34.here hx rfl (pc0 := 133) (pc' := 142) rfl (hb hby at_133) (by decide) (by decide) k) ?_
                    show Go p.tables e below s _ _ _ (T34.setTop (mkF m 142 #[.val (.int p1), .val (.int ((p1 &&& (2147483647 : Int32)) % (10 : Int32))), .val (.ref s8), .val (.int (1 : Int32))] []))
                    refine Go.on (fun t k => XS.aloadN X34.here hx rfl (hb hby at_142) rfl rfl k) ?_
                    show Go p.tables e below s _ _ _ (T34.setTop (mkF m 143 #[.val (.int p1), .val (.int ((p1 &&& (2147483647 : Int32)) % (10 : Int32))), .val (.ref s8), .val (.int (1 : Int32))] [(.ref s8)]))
                    obtain ⟨cq35, kq35, q35a, q35b, q35c⟩ := isOf hZ e34 E_s8
                    obtain ⟨_, _, ⟨T35, L35, k35, n35⟩, -, X35, ⟨Lc35, hQ35, l35, y35, z35⟩, st35⟩ := X34.virtualBack hx (y := (⟨"com/example/tidewell/tidewell/engine/Aggregate$Function", "takesDistinct", "()Z"⟩ : MethodName)) (z := (⟨"com/example/tidewell/tidewell/engine/Aggregate$Function", "takesDistinct", "()Z"⟩ : MethodName)) hown (mvT hZ (hw _ (List.mem_of_getElem? (i := 4) rfl))) (mvT hZ (hw _ (List.mem_of_getElem? (i := 5) rfl))) (notFace_of_selects (args := #[]) (mvT hZ (hw _ (List.mem_of_getElem? (i := 7) rfl)))) (mvT hZ (hw _ (List.mem_of_getElem? (i := 7) rfl))) (mvT hZ (hw _ (List.mem_of_getElem? (i := 6) rfl))) (by decide) (backOf (W := 0) (rm1 l Z a0 hw [] s8 s5 s6 s7 s8 h0 n0 Z0 Sta_FIRST Sta_LAST Sta_MIN_TIME Sta_MAX_TIME) hZ (hw _ (List.mem_of_getElem? (i := 8) rfl)) (hw _ (List.mem_of_getElem? (i := 2) rfl)) (by decide) (by decide)) q35a q35c (g := (mkF m 143 #[.val (.int p1), .val (.int ((p1 &&& (2147483647 : Int32)) % (10 : Int32))), .val (.ref s8), .val (.int (1 : Int32))] [(.ref s8)])) rfl (by rw [hml]; rfl) (Steps.refl _) (argsL := []) (rest := []) (lenOf pd__40__41_Z rfl) rfl (by show 2 * 0 + _ ≤ _; exact Nat.le_of_eq rfl) (hb hby at_143) (fun _ _ => ⟨rfl, e34, (by decide : 0 + 0 ≤ _), (by decide : 0 + 0 ≤ _)⟩)
                    dsimp only [Pt.U, Pt.locs, Pt.cells, Pt.slots] at X35 l35 y35 z35 st35 hQ35
                    rw [l35, y35, z35] at X35
                    obtain ⟨rfl, Nq35, e35⟩ := hQ35
                    have Np36 := Fr.app N0 Nq35
                    refine Go.via st35 ?_
                    show Go p.tables e below s _ _ _ (T35.setTop (mkF m 146 #[.val (.int p1), .val (.int ((p1 &&& (2147483647 : Int32)) % (10 : Int32))), .val (.ref s8), .val (.int (1 : Int32))] [(.int (own_b (¬ s8 = s5 ∧ ¬ s8 = s6 ∧ ¬ s8 = s7 ∧ ¬ s8 = s8)))]))
                    refine Go.on (fun t k => XS.iloadN X35.here hx rfl (hb hby at_146) rfl k) ?_
                    show Go p.tables e below s _ _ _ (T35.setTop (mkF m 147 #[.val (.int p1), .val (.int ((p1 &&& (2147483647 : Int32)) % (10 : Int32))), .val (.ref s8), .val (.int (1 : Int32))] [(.int (1 : Int32)), (.int (own_b (¬ s8 = s5 ∧ ¬ s8 = s6 ∧ ¬ s8 = s7 ∧ ¬ s8 = s8)))]))
                    refine Go.on (fun t k => XS.ifYes X35.here hx rfl (pc0 := 147) (pc' := 154) rfl (hb hby at_147) rfl ((if0 _ _).trans (feq (by decide : ¬ ((1 : Int32) = (0 : Int32)))).2) (by decide) (by decide) k) ?_
                    show Go p.tables e below s _ _ _ (T35.setTop (mkF m 154 #[.val (.int p1), .val (.int ((p1 &&& (2147483647 : Int32)) % (10 : Int32))), .val (.ref s8), .val (.int (1 : Int32))] [(.int (own_b (¬ s8 = s5 ∧ ¬ s8 = s6 ∧ ¬ s8 = s7 ∧ ¬ s8 = s8)))]))
                    refine Go.on (fun t k => XS.iconst X35.here hx rfl (hb hby at_154) k) ?_
                    show Go p.tables e below s _ _ _ (T35.setTop (mkF m 155 #[.val (.int p1), .val (.int ((p1 &&& (2147483647 : Int32)) % (10 : Int32))), .val (.ref s8), .val (.int (1 : Int32))] [(.int (0 : Int32)), (.int (own_b (¬ s8 = s5 ∧ ¬ s8 = s6 ∧ ¬ s8 = s7 ∧ ¬ s8 = s8)))]))
                    refine Go.on (fun t k => XS.icmpNo X35.here hx rfl (hb hby at_155) rfl (teq (own_bf fun q => q.2.2.2 rfl)).2 k) ?_
                    show Go p.tables e below s _ _ _ (T35.setTop (mkF m 158 #[.val (.int p1), .val (.int ((p1 &&& (2147483647 : Int32)) % (10 : Int32))), .val (.ref s8), .val (.int (1 : Int32))] []))
                    refine Go.on (fun t k => XS.iconst X35.here hx rfl (hb hby at_158) k) ?_
                    show Go p.tables e below s _ _ _ (T35.setTop (mkF m 159 #[.val (.int p1), .val (.int ((p1 &&& (2147483647 : Int32)) % (10 : Int32))), .val (.ref s8), .val (.int (1 : Int32))] [(.int (1 : Int32))]))
                    refine Go.on (fun t k => XS.goto X35.here hx rfl (pc0 := 159) (pc' := 163) rfl (hb hby at_159) (by decide) (by decide) k) ?_
                    show Go p.tables e below s _ _ _ (T35.setTop (mkF m 163 #[.val (.int p1), .val (.int ((p1 &&& (2147483647 : Int32)) % (10 : Int32))), .val (.ref s8), .val (.int (1 : Int32))] [(.int (1 : Int32))]))
                    refine Go.retN X35 hx hlk (t := .boolean) Bd.returns (by simp) (hb hby at_163) (by decide) (by decide) e35 ?_
                    exact ⟨rfl, Np36⟩
                  · refine Go.on (fun t k => XS.icmpYes X0.here hx rfl (pc0 := 124) (pc' := 136) rfl (hb hby at_124) rfl (feq hc124_33).2 (by decide) (by decide) k) ?_
                    show Go p.tables e below s _ _ _ (s₁.setTop (mkF m 136 #[.val (.int p1), .val (.int ((p1 &&& (2147483647 : Int32)) % (10 : Int32))), .unset, .unset] []))
                    obtain ⟨T37, X37, e37, st37⟩ := getS2 X0 hx hZ hown (host := "") (Or.inl (hw _ (List.mem_of_getElem? (i := 27) rfl))) Via.refl e0 Sta_EXTREME (g := (mkF m 136 #[.val (.int p1), .val (.int ((p1 &&& (2147483647 : Int32)) % (10 : Int32))), .unset, .unset] [])) rfl (hb hby at_136)
                    refine Go.on st37 ?_
                    show Go p.tables e below s _ _ _ (T37.setTop (mkF m 139 #[.val (.int p1), .val (.int ((p1 &&& (2147483647 : Int32)) % (10 : Int32))), .unset, .unset] [(.ref s9)]))
                    refine Go.on (fun t k => XS.astoreN X37.here hx rfl (hb hby at_139) rfl rfl (l' := #[.val (.int p1), .val (.int ((p1 &&& (2147483647 : Int32)) % (10 : Int32))), .val (.ref s9), .unset]) rfl k) ?_
                    show Go p.tables e below s _ _ _ (T37.setTop (mkF m 140 #[.val (.int p1), .val (.int ((p1 &&& (2147483647 : Int32)) % (10 : Int32))), .val (.ref s9), .unset] []))
                    refine Go.on (fun t k => XS.iconst X37.here hx rfl (hb hby at_140) k) ?_
                    show Go p.tables e below s _ _ _ (T37.setTop (mkF m 141 #[.val (.int p1), .val (.int ((p1 &&& (2147483647 : Int32)) % (10 : Int32))), .val (.ref s9), .unset] [(.int (0 : Int32))]))
                    refine Go.on (fun t k => XS.istoreN X37.here hx rfl (hb hby at_141) rfl (l' := #[.val (.int p1), .val (.int ((p1 &&& (2147483647 : Int32)) % (10 : Int32))), .val (.ref s9), .val (.int (0 : Int32))]) rfl k) ?_
                    show Go p.tables e below s _ _ _ (T37.setTop (mkF m 142 #[.val (.int p1), .val (.int ((p1 &&& (2147483647 : Int32)) % (10 : Int32))), .val (.ref s9), .val (.int (0 : Int32))] []))
                    refine Go.on (fun t k => XS.aloadN X37.here hx rfl (hb hby at_142) rfl rfl k) ?_
                    show Go p.tables e below s _ _ _ (T37.setTop (mkF m 143 #[.val (.int p1), .val (.int ((p1 &&& (2147483647 : Int32)) % (10 : Int32))), .val (.ref s9), .val (.int (0 : Int32))] [(.ref s9)]))
                    obtain ⟨cq38, kq38, q38a, q38b, q38c⟩ := isOf hZ e37 E_s9
                    obtain ⟨_, _, ⟨T38, L38, k38, n38⟩, -, X38, ⟨Lc38, hQ38, l38, y38, z38⟩, st38⟩ := X37.virtualBack hx (y := (⟨"com/example/tidewell/tidewell/engine/Aggregate$Function", "takesDistinct", "()Z"⟩ : MethodName)) (z := (⟨"com/example/tidewell/tidewell/engine/Aggregate$Function", "takesDistinct", "()Z"⟩ : MethodName)) hown (mvT hZ (hw _ (List.mem_of_getElem? (i := 4) rfl))) (mvT hZ (hw _ (List.mem_of_getElem? (i := 5) rfl))) (notFace_of_selects (args := #[]) (mvT hZ (hw _ (List.mem_of_getElem? (i := 7) rfl)))) (mvT hZ (hw _ (List.mem_of_getElem? (i := 7) rfl))) (mvT hZ (hw _ (List.mem_of_getElem? (i := 6) rfl))) (by decide) (backOf (W := 0) (rm1 l Z a0 hw [] s9 s5 s6 s7 s8 h0 n0 Z0 Sta_FIRST Sta_LAST Sta_MIN_TIME Sta_MAX_TIME) hZ (hw _ (List.mem_of_getElem? (i := 8) rfl)) (hw _ (List.mem_of_getElem? (i := 2) rfl)) (by decide) (by decide)) q38a q38c (g := (mkF m 143 #[.val (.int p1), .val (.int ((p1 &&& (2147483647 : Int32)) % (10 : Int32))), .val (.ref s9), .val (.int (0 : Int32))] [(.ref s9)])) rfl (by rw [hml]; rfl) (Steps.refl _) (argsL := []) (rest := []) (lenOf pd__40__41_Z rfl) rfl (by show 2 * 0 + _ ≤ _; exact Nat.le_of_eq rfl) (hb hby at_143) (fun _ _ => ⟨rfl, e37, (by decide : 0 + 0 ≤ _), (by decide : 0 + 0 ≤ _)⟩)
                    dsimp only [Pt.U, Pt.locs, Pt.cells, Pt.slots] at X38 l38 y38 z38 st38 hQ38
                    rw [l38, y38, z38] at X38
                    obtain ⟨rfl, Nq38, e38⟩ := hQ38
                    have Np39 := Fr.app N0 Nq38
                    refine Go.via st38 ?_
                    show Go p.tables e below s _ _ _ (T38.setTop (mkF m 146 #[.val (.int p1), .val (.int ((p1 &&& (2147483647 : Int32)) % (10 : Int32))), .val (.ref s9), .val (.int (0 : Int32))] [(.int (own_b (¬ s9 = s5 ∧ ¬ s9 = s6 ∧ ¬ s9 = s7 ∧ ¬ s9 = s8)))]))
                    refine Go.on (fun t k => XS.iloadN X38.here hx rfl (hb hby at_146) rfl k) ?_
                    show Go p.tables e below s _ _ _ (T38.setTop (mkF m 147 #[.val (.int p1), .val (.int ((p1 &&& (2147483647 : Int32)) % (10 : Int32))), .val (.ref s9), .val (.int (0 : Int32))] [(.int (0 : Int32)), (.int (own_b (¬ s9 = s5 ∧ ¬ s9 = s6 ∧ ¬ s9 = s7 ∧ ¬ s9 = s8)))]))
                    refine Go.on (fun t k => XS.ifNo X38.here hx rfl (hb hby at_147) rfl ((if0 _ _).trans (teq (by decide : (0 : Int32) = (0 : Int32))).2) k) ?_
                    show Go p.tables e below s _ _ _ (T38.setTop (mkF m 150 #[.val (.int p1), .val (.int ((p1 &&& (2147483647 : Int32)) % (10 : Int32))), .val (.ref s9), .val (.int (0 : Int32))] [(.int (own_b (¬ s9 = s5 ∧ ¬ s9 = s6 ∧ ¬ s9 = s7 ∧ ¬ s9 = s8)))]))
                    refine Go.on (fun t k => XS.iconst X38.here hx rfl (hb hby at_150) k) ?_
                    show Go p.tables e below s _ _ _ (T38.setTop (mkF m 151 #[.val (.int p1), .val (.int ((p1 &&& (2147483647 : Int32)) % (10 : Int32))), .val (.ref s9), .val (.int (0 : Int32))] [(.int (1 : Int32)), (.int (own_b (¬ s9 = s5 ∧ ¬ s9 = s6 ∧ ¬ s9 = s7 ∧ ¬ s9 = s8)))]))
                    refine Go.on (fun t k => XS.goto X38.here hx rfl (pc0 := 151) (pc' := 155) rfl (hb hby at_151) (by decide) (by decide) k) ?_
                    show Go p.tables e below s _ _ _ (T38.setTop (mkF m 155 #[.val (.int p1), .val (.int ((p1 &&& (2147483647 : Int32)) % (10 : Int32))), .val (.ref s9), .val (.int (0 : Int32))] [(.int (1 : Int32)), (.int (own_b (¬ s9 = s5 ∧ ¬ s9 = s6 ∧ ¬ s9 = s7 ∧ ¬ s9 = s8)))]))
                    refine Go.on (fun t k => XS.icmpNo X38.here hx rfl (hb hby at_155) rfl (teq (own_bt ⟨F_ordinal_s9.ne F_ordinal_s5 (by decide), F_ordinal_s9.ne F_ordinal_s6 (by decide), F_ordinal_s9.ne F_ordinal_s7 (by decide), F_ordinal_s9.ne F_ordinal_s8 (by decide)⟩)).2 k) ?_
                    show Go p.tables e below s _ _ _ (T38.setTop (mkF m 158 #[.val (.int p1), .val (.int ((p1 &&& (2147483647 : Int32)) % (10 : Int32))), .val (.ref s9), .val (.int (0 : Int32))] []))
                    refine Go.on (fun t k => XS.iconst X38.here hx rfl (hb hby at_158) k) ?_
                    show Go p.tables e below s _ _ _ (T38.setTop (mkF m 159 #[.val (.int p1), .val (.int ((p1 &&& (2147483647 : Int32)) % (10 : Int32))), .val (.ref s9), .val (.int (0 : Int32))] [(.int (1 : Int32))]))
                    refine Go.on (fun t k => XS.goto X38.here hx rfl (pc0 := 159) (pc' := 163) rfl (hb hby at_159) (by decide) (by decide) k) ?_
                    show Go p.tables e below s _ _ _ (T38.setTop (mkF m 163 #[.val (.int p1), .val (.int ((p1 &&& (2147483647 : Int32)) % (10 : Int32))), .val (.ref s9), .val (.int (0 : Int32))] [(.int (1 : Int32))]))
                    refine Go.retN X38 hx hlk (t := .boolean) Bd.returns (by simp) (hb hby at_163) (by decide) (by decide) e38 ?_
                    exact ⟨rfl, Np39⟩
set_option maxRecDepth 65536 in
set_option maxHeartbeats 40000000 in
theorem comes_1 {Post : Tables → Env → Array Value → State → Outcome → State → Prop} (hpost : ∀ tb e args s v u, (limb_1_1.after args s (.returned v) u = true ∧ limb_1_2.after args s (.returned v) u = true ∧ True) → FrameEnd s (.returned v) u (Jvm.fieldLocs frame_1_writes args s ++ Jvm.arrayLocs frame_1_arrays args s ++ Jvm.staticLocs frame_1_statics s) 0 0 → Post tb e args s (.returned v) u) :
    ArmFor flags0 classFile x code maxLocals ret World_1 tables_1 room_1 Calls_1 rest_1 Pre_1 Post := by
  intro l hfl _ _ p e ha hc hk s m args below hf hA hF happ hP
  obtain ⟨hcalls, hrest, hpre⟩ := hP
  obtain ⟨-, -, -, hnamed, -, -, -, hat⟩ := (Spec.applies_iff hf).mp happ
  obtain ⟨hg, hn⟩ := and_e (Cond.before_iff.mp (show (Jvm.Cond.and given_1 narrow_1).before args s = true from hpre))
  obtain ⟨gg1, gg2⟩ := and_e hg
  obtain ⟨w0, rfl⟩ : ∃ w0 : Value, args = #[w0] := by
    have hs : args.size = 1 := by simpa [Cond.value, given_1] using gg1
    obtain ⟨L⟩ := args
    match L, hs with
    | [w0], _ => exact ⟨w0, rfl⟩
  have hw := fun d (hd : d ∈ tables_1) => atoms_spec (ws := Jvm.Cond.code x code maxLocals ret :: tables_1) hat d (List.mem_cons_of_mem _ hd)
  have hfit : Fit s := fun {y c} hc i hi => by
    obtain ⟨ha, rfl⟩ := Array.getElem?_eq_some_iff.mp hc
    have q := List.all_eq_true.mp ((Array.all_eq_true_iff_forall_mem.mp hF) _ (Array.getElem_mem ha)) i (List.mem_range.mpr hi)
    simpa [Array.getElem?_eq_getElem hi] using q
  obtain ⟨i0, ei0⟩ := is_v gg2
  obtain rfl : w0 = (.int i0) := Option.some.inj ei0
  obtain ⟨nn1, nn2⟩ := and_e hn
  obtain ⟨nn3, nn4⟩ := and_e nn2
  obtain ⟨nn5, nn6⟩ := and_e nn4
  obtain ⟨nn7, nn8⟩ := and_e nn6
  obtain ⟨nn9, nn10⟩ := and_e nn8
  obtain ⟨nn11, nn12⟩ := and_e nn10
  obtain ⟨nn13, nn14⟩ := and_e nn12
  obtain ⟨nn15, nn16⟩ := and_e nn14
  obtain ⟨nn17, nn18⟩ := and_e nn16
  obtain ⟨nn19, nn20⟩ := and_e nn18
  obtain ⟨nn21, nn22⟩ := and_e nn20
  obtain ⟨nn23, nn24⟩ := and_e nn22
  obtain ⟨nn25, nn26⟩ := and_e nn24
  obtain ⟨nn27, nn28⟩ := and_e nn26
  obtain ⟨nn29, nn30⟩ := and_e nn28
  obtain ⟨nn31, nn32⟩ := and_e nn30
  obtain ⟨nn33, nn34⟩ := and_e nn32
  obtain ⟨nn35, nn36⟩ := and_e nn34
  obtain ⟨nn37, nn38⟩ := and_e nn36
  obtain ⟨d0, Sd0, Ed0, ev0⟩ := own_static nn1 (hw _ (List.mem_of_getElem? (i := 2) rfl)) (hw _ (List.mem_of_getElem? (i := 3) rfl))
  have Od0 := own_ord ev0 nn5
  obtain ⟨d1, Sd1, Ed1, ev1⟩ := own_static nn25 (hw _ (List.mem_of_getElem? (i := 2) rfl)) (hw _ (List.mem_of_getElem? (i := 20) rfl))
  have Od1 := own_ord ev1 nn27
  obtain ⟨d2, Sd2, Ed2, ev2⟩ := own_static nn33 (hw _ (List.mem_of_getElem? (i := 2) rfl)) (hw _ (List.mem_of_getElem? (i := 25) rfl))
  have Od2 := own_ord ev2 nn35
  obtain ⟨d3, Sd3, Ed3, ev3⟩ := own_static nn21 (hw _ (List.mem_of_getElem? (i := 2) rfl)) (hw _ (List.mem_of_getElem? (i := 18) rfl))
  have Od3 := own_ord ev3 nn23
  obtain ⟨d4, Sd4, Ed4, ev4⟩ := own_static nn29 (hw _ (List.mem_of_getElem? (i := 2) rfl)) (hw _ (List.mem_of_getElem? (i := 22) rfl))
  have Od4 := own_ord ev4 nn31
  obtain ⟨d5, Sd5, Ed5, ev5⟩ := own_static nn3 (hw _ (List.mem_of_getElem? (i := 2) rfl)) (hw _ (List.mem_of_getElem? (i := 10) rfl))
  have Od5 := own_ord ev5 nn7
  obtain ⟨d6, Sd6, Ed6, ev6⟩ := own_static nn9 (hw _ (List.mem_of_getElem? (i := 2) rfl)) (hw _ (List.mem_of_getElem? (i := 12) rfl))
  have Od6 := own_ord ev6 nn11
  obtain ⟨d7, Sd7, Ed7, ev7⟩ := own_static nn13 (hw _ (List.mem_of_getElem? (i := 2) rfl)) (hw _ (List.mem_of_getElem? (i := 14) rfl))
  have Od7 := own_ord ev7 nn15
  obtain ⟨d8, Sd8, Ed8, ev8⟩ := own_static nn17 (hw _ (List.mem_of_getElem? (i := 2) rfl)) (hw _ (List.mem_of_getElem? (i := 16) rfl))
  have Od8 := own_ord ev8 nn19
  obtain ⟨d9, Sd9, Ed9, ev9⟩ := own_static nn37 (hw _ (List.mem_of_getElem? (i := 2) rfl)) (hw _ (List.mem_of_getElem? (i := 28) rfl))
  have Od9 := own_ord ev9 nn38
  obtain ⟨n, o, h1, h2, h3, _, L, rfl, ⟨rfl, N⟩, hq⟩ := rm0 l s _ hw tables_1 i0 d0 d1 d2 d3 d4 d5 d6 d7 d8 d9 s.heap s.heap.size (Nat.le_refl _) Sd0 Sd1 Sd2 Sd3 Sd4 Sd5 Sd6 Sd7 Sd8 Sd9 Ed0 Ed1 Ed2 Ed3 Ed4 Ed5 Ed6 Ed7 Ed8 Ed9 Od0 Od1 Od2 Od3 Od4 Od5 Od6 Od7 Od8 Od9 p e ha hc hk s m _ below hf ((Spec.applies_iff_loose hf).mp happ).1 ⟨rfl, State.Warmed39.refl s, rfl⟩ trivial
  refine ⟨n, _, h1, h2, h3, hpost _ _ _ _ _ _ ⟨Cond.after_iff.mpr rfl, Cond.after_iff.mpr (eq_i res_at (Term.int_eval (1)) rfl), trivial⟩ ⟨hq.1, hq.2.1, (hq.2.2.sift fun y hy => Or.inr (N y hy)).mono (by decide) (by decide)⟩⟩
theorem main_1_1 : Claimed_1_1 := comes_1 fun _ _ _ _ _ _ h hF => ⟨h.1, hF⟩
theorem main_1_2 : Claimed_1_2 := comes_1 fun _ _ _ _ _ _ h hF => ⟨h.2.1, hF⟩
end Jvm.Pilot.@@N@@
namespace Jvm.Pilot.@@N@@
open Jvm Jvm.ClassFile Sem Op Lib Jvm.Free Jvm.Stand Jvm.Pilot.@@N@@.Jvm.D
/-! MADE BY PROGRAM (witnessworld.py) out of the Statement's table words and the real class files: 12 classes; the members and pool entries that the words name. The judged class is class 1, her method 1. -/
namespace start1
open Jvm.ClassFile
def u (s : String) : CpInfo := .utf8 (stringToUtf16 s)
/-- a pool by its gaps: so many unusable entries, then the entry; so many at the end -/
def gap : Nat → List CpInfo → List CpInfo
  | 0, r => r
  | n + 1, r => .unusable :: gap n r
def poolList (es : List (Nat × CpInfo)) (last : Nat) : List CpInfo := es.foldr (fun e r => gap e.1 (e.2 :: r)) (gap last [])
def pool (es : List (Nat × CpInfo)) (last : Nat) : Array CpInfo := ⟨poolList es last⟩
def fileOf (pool : Array CpInfo) (this : Nat) (attrs : Array Attribute := #[]) (ms : Array MethodInfo := #[]) (fl : Nat := 33) (sup : Nat := 0) (ifs : Array Nat := #[]) (fds : Array FieldInfo := #[]) : ClassFile where
  minorVersion := 0
  majorVersion := 65
  constantPool := pool
  accessFlags := fl
  thisClass := this
  superClass := sup
  interfaces := ifs
  fields := fds
  methods := ms
  attributes := attrs
def plain (name : String) (sup : Option ClassId) : Class where
  name := name
  kind := .ordinary
  loader := none
  accessFlags := 33
  super := sup
  interfaces := #[]
  cf := none
  fields := #[]
  methods := #[]
  instanceTypes := #[]
  staticTypes := #[]
  resolved := #[]
  callSites := []
  init := .initialized
  statics := none
  mirror := none

def pool0 : Array CpInfo := pool [(5, u "<init>"), (0, u "()V"), (1, .class_ 10), (1, u "java/lang/Object")] 113

def k0m0 : Method := { name := "<init>", desc := "()V", sig := { parameters := [], returnType := none }, accessFlags := 1, code := none }
/-- java/lang/Object -/
def k0 : Class := { plain "java/lang/Object" none with
  accessFlags := 33
  interfaces := #[]
  cf := some (fileOf pool0 8 #[] #[{ accessFlags := 1, nameIndex := 5, descriptorIndex := 6, attributes := #[] }] 33 0 #[] #[])
  fields := #[]
  methods := #[k0m0]
  instanceTypes := #[]
  staticTypes := #[]
  resolved := Array.replicate 124 none
  statics := none }

def pool1 : Array CpInfo := pool [(2, .class_ 4), (1, u "java/lang/Object"), (0, u "<init>"), (0, u "()V"), (0, .integer 2147483647), (0, .fieldref 9 10), (0, .class_ 11), (0, .nameAndType 12 13), (0, u "com/example/tidewell/tidewell/engine/Aggregate$Function"), (0, u "COUNT"), (0, u "Lcom/example/tidewell/tidewell/engine/Aggregate$Function;"), (0, .fieldref 9 15), (0, .nameAndType 16 13), (0, u "SUM"), (0, .fieldref 9 18), (0, .nameAndType 19 13), (0, u "AVG"), (0, .fieldref 9 21), (0, .nameAndType 22 13), (0, u "MIN"), (0, .fieldref 9 24), (0, .nameAndType 25 13), (0, u "MAX"), (0, .fieldref 9 27), (0, .nameAndType 28 13), (0, u "FIRST"), (0, .fieldref 9 30), (0, .nameAndType 31 13), (0, u "LAST"), (0, .fieldref 9 33), (0, .nameAndType 34 13), (0, u "MIN_TIME"), (0, .fieldref 9 36), (0, .nameAndType 37 13), (0, u "MAX_TIME"), (0, .fieldref 9 39), (0, .nameAndType 40 13), (0, u "EXTREME"), (0, .methodref 9 42), (0, .nameAndType 43 44), (0, u "takesDistinct"), (0, u "()Z"), (0, .class_ 46), (0, u "com/example/tidewell/tidewell/engine/FunctionTakesDistinctPinLaw"), (2, u "law"), (0, u "(I)Z")] 7

def k1m0 : Method := { name := "<init>", desc := "()V", sig := { parameters := [], returnType := none }, accessFlags := 2, code := none }
def k1c1 : Code := { maxStack := 2, maxLocals := 4, code := code, exceptionTable := #[], attributes := #[] }
def k1m1 : Method := { name := "law", desc := "(I)Z", sig := { parameters := [.int], returnType := some .boolean }, accessFlags := 9, code := some k1c1 }
/-- com/example/tidewell/tidewell/engine/FunctionTakesDistinctPinLaw -/
def k1 : Class := { plain "com/example/tidewell/tidewell/engine/FunctionTakesDistinctPinLaw" (some 0) with
  accessFlags := 49
  interfaces := #[]
  cf := some (fileOf pool1 45 #[] #[{ accessFlags := 2, nameIndex := 5, descriptorIndex := 6, attributes := #[] }, { accessFlags := 9, nameIndex := 49, descriptorIndex := 50, attributes := #[] }] 49 2 #[] #[])
  fields := #[]
  methods := #[k1m0, k1m1]
  instanceTypes := #[]
  staticTypes := #[]
  resolved := Array.replicate 58 none
  statics := none }

def pool2 : Array CpInfo := pool [(1, .class_ 2), (0, u "java/lang/constant/Constable"), (0, .class_ 4), (0, u "java/lang/Object")] 6

/-- java/lang/constant/Constable -/
def k2 : Class := { plain "java/lang/constant/Constable" (some 0) with
  accessFlags := 1537
  interfaces := #[]
  cf := some (fileOf pool2 1 #[] #[] 1537 3 #[] #[])
  fields := #[]
  methods := #[]
  instanceTypes := #[]
  staticTypes := #[]
  resolved := Array.replicate 11 none
  statics := none }

def pool3 : Array CpInfo := pool [(1, .class_ 2), (0, u "java/lang/Comparable"), (0, .class_ 4), (0, u "java/lang/Object")] 7

/-- java/lang/Comparable -/
def k3 : Class := { plain "java/lang/Comparable" (some 0) with
  accessFlags := 1537
  interfaces := #[]
  cf := some (fileOf pool3 1 #[] #[] 1537 3 #[] #[])
  fields := #[]
  methods := #[]
  instanceTypes := #[]
  staticTypes := #[]
  resolved := Array.replicate 12 none
  statics := none }

def pool4 : Array CpInfo := pool [(1, .class_ 2), (0, u "java/io/Serializable"), (0, .class_ 4), (0, u "java/lang/Object")] 2

/-- java/io/Serializable -/
def k4 : Class := { plain "java/io/Serializable" (some 0) with
  accessFlags := 1537
  interfaces := #[]
  cf := some (fileOf pool4 1 #[] #[] 1537 3 #[] #[])
  fields := #[]
  methods := #[]
  instanceTypes := #[]
  staticTypes := #[]
  resolved := Array.replicate 7 none
  statics := none }

def pool5 : Array CpInfo := pool [(2, .class_ 4), (1, u "java/lang/Enum"), (0, u "name"), (0, u "Ljava/lang/String;"), (2, u "ordinal"), (0, u "I"), (1, .class_ 14), (1, u "java/lang/Object"), (4, u "hash"), (86, .class_ 108), (1, u "java/lang/Enum$EnumDesc"), (2, .class_ 112), (0, u "java/lang/constant/Constable"), (0, .class_ 114), (0, u "java/lang/Comparable"), (0, .class_ 116), (0, u "java/io/Serializable")] 87

/-- java/lang/Enum -/
def k5 : Class := { plain "java/lang/Enum" (some 0) with
  accessFlags := 1057
  interfaces := #[2, 3, 4]
  cf := some (fileOf pool5 2 #[.nestMembers #[106]] #[] 1057 12 #[111, 113, 115] #[{ accessFlags := 18, nameIndex := 5, descriptorIndex := 6, attributes := #[] }, { accessFlags := 18, nameIndex := 9, descriptorIndex := 10, attributes := #[] }, { accessFlags := 2, nameIndex := 19, descriptorIndex := 10, attributes := #[] }])
  fields := #[{ name := "name", type := (.object "java/lang/String"), accessFlags := 18, slot := 0, constantValue := 0 }, { name := "ordinal", type := .int, accessFlags := 18, slot := 1, constantValue := 0 }, { name := "hash", type := .int, accessFlags := 2, slot := 2, constantValue := 0 }]
  methods := #[]
  instanceTypes := #[(.object "java/lang/String"), .int, .int]
  staticTypes := #[]
  resolved := Array.replicate 204 none
  statics := none }

def pool6 : Array CpInfo := pool [(1, .class_ 2), (0, u "com/example/tidewell/tidewell/engine/Aggregate$Function"), (2, u "COUNT"), (0, u "Lcom/example/tidewell/tidewell/engine/Aggregate$Function;"), (2, u "SUM"), (2, u "AVG"), (2, u "MIN"), (2, u "MAX"), (0, .fieldref 1 20), (0, .nameAndType 21 6), (0, u "FIRST"), (0, .fieldref 1 23), (0, .nameAndType 24 6), (0, u "LAST"), (0, .fieldref 1 26), (0, .nameAndType 27 6), (0, u "MIN_TIME"), (0, .fieldref 1 29), (0, .nameAndType 30 6), (0, u "MAX_TIME"), (2, u "EXTREME"), (2, u "$VALUES"), (0, u "[Lcom/example/tidewell/tidewell/engine/Aggregate$Function;"), (6, .class_ 46), (1, u "java/lang/Enum"), (8, u "tableName"), (0, u "Ljava/lang/String;"), (2, u "pathName"), (30, u "()Z"), (88, u "takesDistinct"), (2, .class_ 183), (0, u "com/example/tidewell/tidewell/engine/Aggregate")] 13

def k6c0 : Code := { maxStack := 2, maxLocals := 1, code := prog_13_method_6_code, exceptionTable := #[], attributes := #[] }
def k6m0 : Method := { name := "takesDistinct", desc := "()Z", sig := { parameters := [], returnType := some .boolean }, accessFlags := 0, code := some k6c0 }
/-- com/example/tidewell/tidewell/engine/Aggregate$Function -/
def k6 : Class := { plain "com/example/tidewell/tidewell/engine/Aggregate$Function" (some 5) with
  accessFlags := 16433
  interfaces := #[]
  cf := some (fileOf pool6 1 #[.nestHost 182] #[{ accessFlags := 0, nameIndex := 179, descriptorIndex := 90, attributes := #[] }] 16433 44 #[] #[{ accessFlags := 16409, nameIndex := 5, descriptorIndex := 6, attributes := #[] }, { accessFlags := 16409, nameIndex := 9, descriptorIndex := 6, attributes := #[] }, { accessFlags := 16409, nameIndex := 12, descriptorIndex := 6, attributes := #[] }, { accessFlags := 16409, nameIndex := 15, descriptorIndex := 6, attributes := #[] }, { accessFlags := 16409, nameIndex := 18, descriptorIndex := 6, attributes := #[] }, { accessFlags := 16409, nameIndex := 21, descriptorIndex := 6, attributes := #[] }, { accessFlags := 16409, nameIndex := 24, descriptorIndex := 6, attributes := #[] }, { accessFlags := 16409, nameIndex := 27, descriptorIndex := 6, attributes := #[] }, { accessFlags := 16409, nameIndex := 30, descriptorIndex := 6, attributes := #[] }, { accessFlags := 16409, nameIndex := 33, descriptorIndex := 6, attributes := #[] }, { accessFlags := 18, nameIndex := 55, descriptorIndex := 56, attributes := #[] }, { accessFlags := 18, nameIndex := 59, descriptorIndex := 56, attributes := #[] }, { accessFlags := 4122, nameIndex := 36, descriptorIndex := 37, attributes := #[] }])
  fields := #[{ name := "COUNT", type := (.object "com/example/tidewell/tidewell/engine/Aggregate$Function"), accessFlags := 16409, slot := 0, constantValue := 0 }, { name := "SUM", type := (.object "com/example/tidewell/tidewell/engine/Aggregate$Function"), accessFlags := 16409, slot := 1, constantValue := 0 }, { name := "AVG", type := (.object "com/example/tidewell/tidewell/engine/Aggregate$Function"), accessFlags := 16409, slot := 2, constantValue := 0 }, { name := "MIN", type := (.object "com/example/tidewell/tidewell/engine/Aggregate$Function"), accessFlags := 16409, slot := 3, constantValue := 0 }, { name := "MAX", type := (.object "com/example/tidewell/tidewell/engine/Aggregate$Function"), accessFlags := 16409, slot := 4, constantValue := 0 }, { name := "FIRST", type := (.object "com/example/tidewell/tidewell/engine/Aggregate$Function"), accessFlags := 16409, slot := 5, constantValue := 0 }, { name := "LAST", type := (.object "com/example/tidewell/tidewell/engine/Aggregate$Function"), accessFlags := 16409, slot := 6, constantValue := 0 }, { name := "MIN_TIME", type := (.object "com/example/tidewell/tidewell/engine/Aggregate$Function"), accessFlags := 16409, slot := 7, constantValue := 0 }, { name := "MAX_TIME", type := (.object "com/example/tidewell/tidewell/engine/Aggregate$Function"), accessFlags := 16409, slot := 8, constantValue := 0 }, { name := "EXTREME", type := (.object "com/example/tidewell/tidewell/engine/Aggregate$Function"), accessFlags := 16409, slot := 9, constantValue := 0 }, { name := "tableName", type := (.object "java/lang/String"), accessFlags := 18, slot := 3, constantValue := 0 }, { name := "pathName", type := (.object "java/lang/String"), accessFlags := 18, slot := 4, constantValue := 0 }, { name := "$VALUES", type := (.array (.object "com/example/tidewell/tidewell/engine/Aggregate$Function")), accessFlags := 4122, slot := 10, constantValue := 0 }]
  methods := #[k6m0]
  instanceTypes := #[(.object "java/lang/String"), .int, .int, (.object "java/lang/String"), (.object "java/lang/String")]
  staticTypes := #[(.object "com/example/tidewell/tidewell/engine/Aggregate$Function"), (.object "com/example/tidewell/tidewell/engine/Aggregate$Function"), (.object "com/example/tidewell/tidewell/engine/Aggregate$Function"), (.object "com/example/tidewell/tidewell/engine/Aggregate$Function"), (.object "com/example/tidewell/tidewell/engine/Aggregate$Function"), (.object "com/example/tidewell/tidewell/engine/Aggregate$Function"), (.object "com/example/tidewell/tidewell/engine/Aggregate$Function"), (.object "com/example/tidewell/tidewell/engine/Aggregate$Function"), (.object "com/example/tidewell/tidewell/engine/Aggregate$Function"), (.object "com/example/tidewell/tidewell/engine/Aggregate$Function"), (.array (.object "com/example/tidewell/tidewell/engine/Aggregate$Function"))]
  resolved := Array.replicate 197 none
  statics := some 0 }

def pool7 : Array CpInfo := pool [(1, u "java/lang/Cloneable"), (0, .class_ 1), (0, u "java/lang/Object"), (0, .class_ 3)] 3

/-- java/lang/Cloneable -/
def k7 : Class := { plain "java/lang/Cloneable" (some 0) with
  accessFlags := 1537
  interfaces := #[]
  cf := some (fileOf pool7 2 #[] #[] 1537 4 #[] #[])
  fields := #[]
  methods := #[]
  instanceTypes := #[]
  staticTypes := #[]
  resolved := Array.replicate 8 none
  statics := none }

/-- the primitive byte -/
def k8 : Class := { plain "byte" none with kind := .primitive 'B', accessFlags := 0x411 }
/-- [B -/
def k9 : Class := { plain "[B" (some 0) with kind := .array 8 .byte, interfaces := #[7, 4], accessFlags := 1041 }

/-- the primitive int -/
def k10 : Class := { plain "int" none with kind := .primitive 'I', accessFlags := 0x411 }
/-- [I -/
def k11 : Class := { plain "[I" (some 0) with kind := .array 10 .int, interfaces := #[7, 4], accessFlags := 1041 }

def heap : Heap := #[{ cls := 6, slots := #[.ref 1, .ref 2, .ref 3, .ref 4, .ref 5, .ref 6, .ref 7, .ref 8, .ref 9, .ref 10, .null], vm := .statics 6 },
  { cls := 6, slots := #[.null, .int 0, .int 0, .null, .null], vm := .none },
  { cls := 6, slots := #[.null, .int 1, .int 0, .null, .null], vm := .none },
  { cls := 6, slots := #[.null, .int 2, .int 0, .null, .null], vm := .none },
  { cls := 6, slots := #[.null, .int 3, .int 0, .null, .null], vm := .none },
  { cls := 6, slots := #[.null, .int 4, .int 0, .null, .null], vm := .none },
  { cls := 6, slots := #[.null, .int 5, .int 0, .null, .null], vm := .none },
  { cls := 6, slots := #[.null, .int 6, .int 0, .null, .null], vm := .none },
  { cls := 6, slots := #[.null, .int 7, .int 0, .null, .null], vm := .none },
  { cls := 6, slots := #[.null, .int 8, .int 0, .null, .null], vm := .none },
  { cls := 6, slots := #[.null, .int 9, .int 0, .null, .null], vm := .none }]
def classes : Array Class := #[k0, k1, k2, k3, k4, k5, k6, k7, k8, k9, k10, k11]
def interned : List (Array UInt16 × Addr) := []
def slotsUsed : Nat := 61
def theMethod : MethodId := ⟨1, 1⟩
def args0 : Array Value := #[.int 5]
def aboutOver (below : List Frame) : State where
  vm := { classes := classes, interned := interned.toArray }
  heap := heap
  slotsUsed := slotsUsed
  threads := #[{ frames := .invoking theMethod args0 :: below }]
def below0 : List Frame := [.native { method := ⟨0, 0⟩, args := #[] }]
def about1 : State := aboutOver below0
def p0 : Program := .bare "" "" ""
def e0 : Env := launch0.env 0 0 0
theorem w_frames : about1.frames = Frame.invoking theMethod args0 :: below0 := rfl
set_option maxRecDepth 65536 in
theorem w_args : argsFit about1.vm theMethod args0 = true := by decide +kernel
set_option maxRecDepth 65536 in
theorem w_heap : heapFits about1 = true := by decide +kernel
set_option maxRecDepth 65536 in
theorem w_runnable : about1.curStatus? = some .runnable := by decide +kernel
set_option maxRecDepth 65536 in
theorem w_alone : about1.alone = true := by decide +kernel
set_option maxRecDepth 65536 in
theorem w_named : about1.methodNamed? x = some theMethod := by decide +kernel
set_option maxRecDepth 65536 in
theorem w_hears : about1.hears theMethod below0 = true := by decide +kernel
set_option maxRecDepth 65536 in
theorem w_ripe : about1.ripe theMethod args0 below0 = true := by decide +kernel
theorem w_running : about1.status = .running := rfl
set_option maxRecDepth 65536 in
theorem w_room : about1.hasRoom e0.platform room_1 = true :=
  launch0.hasRoom_least _ room_1 (by decide +kernel) (by decide +kernel) (by decide +kernel) (by decide +kernel) (by decide +kernel) (by decide +kernel)
theorem allAtoms_all (ts : List Jvm.Cond) (a : Array Jvm.Value) (st : Jvm.State) : (allAtoms ts).before a st = ts.all (fun c => c.before a st) := by
  induction ts with
  | nil => rfl
  | cons c t ih =>
    show (Jvm.Cond.and c (allAtoms t)).before a st = _
    rw [Jvm.Cond.before_and, ih, List.all_cons]
def words1 : List Jvm.Cond := Jvm.Cond.code x code maxLocals ret :: tables_1
/-- a 'code' word, met by the world's own term for the bytes: nothing is compared byte by byte -/
theorem code_word {y : MethodName} {bytes : ByteArray} {mx : Nat} {rt : Option FieldType} {a : Array Value} {s : State} {m : MethodId} {meth : Method} {c : Code} (h1 : s.methodNamed? y = some m) (h2 : s.vm.method? m = some meth) (h3 : meth.code = some c) (h4 : c.code = bytes)
    (h5 : (c.maxLocals == mx && c.exceptionTable.isEmpty && decide (c.maxStack ≤ mostOperands) && decide (meth.sig.returnType = rt) && !meth.locks && decide (parseMethodDescriptor y.desc = some meth.sig)) = true) : (Jvm.Cond.code y bytes mx rt).before a s = true := by
  simp only [Bool.and_eq_true, beq_iff_eq, Bool.not_eq_true', decide_eq_true_eq] at h5
  obtain ⟨⟨⟨⟨⟨g1, g2⟩, g3⟩, g4⟩, g5⟩, g6⟩ := h5
  simp [Cond.before, Cond.holds, Cond.value, h1, h2, h3, h4, g1, g2, g3, g4, g5, g6]
def isCode : Jvm.Cond → Bool
  | .code _ _ _ _ => true
  | _ => false
theorem all_split {L : List Jvm.Cond} {P : Jvm.Cond → Bool} (h1 : L.all (fun c => isCode c || P c) = true) (h2 : ∀ c ∈ L.filter isCode, P c = true) : L.all P = true := by
  refine List.all_eq_true.mpr fun c hc => ?_
  have h := List.all_eq_true.mp h1 c hc
  rcases Bool.eq_false_or_eq_true (isCode c) with hi | hi
  · exact h2 c (List.mem_filter.mpr ⟨hc, hi⟩)
  · simpa [hi] using h
set_option maxRecDepth 65536 in
theorem w_c0 : (Jvm.Cond.code x code maxLocals ret).before args0 about1 = true := code_word (m := ⟨1, 1⟩) (meth := k1m1) (c := k1c1) (by decide +kernel) rfl rfl rfl (by decide +kernel)
set_option maxRecDepth 65536 in
theorem w_c1 : (Jvm.Cond.code ({ cls := "com/example/tidewell/tidewell/engine/Aggregate$Function", name := "takesDistinct", desc := "()Z" } : Jvm.MethodName) prog_13_method_6_code (1 : Nat) (Option.some Jvm.ClassFile.FieldType.boolean)).before args0 about1 = true := code_word (m := ⟨6, 0⟩) (meth := k6m0) (c := k6c0) (by decide +kernel) rfl rfl rfl (by decide +kernel)
def codes1 : List Jvm.Cond := [Jvm.Cond.code x code maxLocals ret, Jvm.Cond.code ({ cls := "com/example/tidewell/tidewell/engine/Aggregate$Function", name := "takesDistinct", desc := "()Z" } : Jvm.MethodName) prog_13_method_6_code (1 : Nat) (Option.some Jvm.ClassFile.FieldType.boolean)]
set_option maxRecDepth 65536 in
theorem codes_eq : words1.filter isCode = codes1 := rfl
theorem w_codes : ∀ c ∈ words1.filter isCode, c.before args0 about1 = true := by
  rw [codes_eq]
  intro c hc
  simp only [codes1, List.mem_cons, List.not_mem_nil, or_false] at hc
  rcases hc with rfl | rfl
  · exact w_c0
  · exact w_c1
set_option maxRecDepth 65536 in
theorem w_t1 : (words1.take 24).all (fun c => isCode c || c.before args0 about1) = true := by decide +kernel
set_option maxRecDepth 65536 in
theorem w_t2 : (words1.drop 24).all (fun c => isCode c || c.before args0 about1) = true := by decide +kernel
theorem w_tables : (allAtoms (Jvm.Cond.code x code maxLocals ret :: tables_1)).before args0 about1 = true := by
  rw [allAtoms_all]
  show words1.all (fun c => c.before args0 about1) = true
  refine all_split ?_ w_codes
  rw [← List.take_append_drop 24 words1, List.all_append, w_t1, w_t2]
  rfl
set_option maxRecDepth 65536 in
theorem w_case : (Jvm.Cond.and given_1 narrow_1).before args0 about1 = true := by decide +kernel
theorem w_applies : (headSpec (Jvm.Cond.code x code maxLocals ret :: tables_1) room_1).applies x e0.platform about1 = true :=
  (Spec.applies_iff w_frames).mpr ⟨w_running, w_runnable, w_alone, w_named, w_hears, w_ripe, w_room, w_tables⟩
theorem atStart : AtStart classFile x code maxLocals ret World_1 tables_1 room_1 Calls_1 rest_1 Pre_1 launch0 p0 e0 about1 theMethod args0 below0 :=
  ⟨lists_1, trivial, launch0.admits_env _ _ _, launch0.least_env, fairChoices_fair.cas, fairChoices_fair.clock, w_frames, w_args, w_heap, w_applies, trivial, trivial, w_case⟩
end start1
theorem witness_1 : WitnessClaimed_1 := ⟨start1.p0, start1.e0, start1.about1, start1.theMethod, start1.args0, start1.below0, start1.atStart⟩
end Jvm.Pilot.@@N@@
