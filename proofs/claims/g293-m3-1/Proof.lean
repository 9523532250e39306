import JvmDerived
import JvmDerived.Pilot.@@N@@Statement
import JvmDerived.Pilot.@@N@@Code
set_option linter.unusedVariables false
set_option linter.unusedSimpArgs false
namespace Jvm.RoadKit
open Sem ClassFile Op Lib Jvm.Stand Jvm.Free Jvm.LawKit
section New
variable {p : Program} {l : Launch} {e : Env} {R : Room} {s : State} {m : MethodId} {args : Array Value} {below : List Frame} {meth : Method} {c : Code} {T : State} {locs : List Loc} {cells slots : Nat}
theorem retI (X : Stand p l e R s m args below meth c T locs cells slots) (hx : p.tables.exec = Jvm.exec) {pc : Nat} {Ls : Array Slot} {z : Int32} {rest : List Value} (hret : meth.sig.returnType = some .int) (hd : decode c.code pc = .ok (.ireturn, 1)) {fs : List Frame}
    (hl : ∀ (f : JFrame) (acts : List Action), f.method = m → f.locked = none → f.entered = [] → (doReturn e (T.setTop f) acts (some (.int z))).1 = T.setFrames fs) : Steps p.tables e below (T.setTop (mkF m pc Ls (.int z :: rest))) (T.setFrames fs) := by
  have hm' : T.vm.method? m = some meth := X.method'
  have hn : narrow .int (.int z) = .int z := rfl
  show Steps p.tables e below (T.setTop { method := m, pc := pc, locals := Ls, stack := _ :: rest, locked := none }) _
  jvm_step X.here [X.here.top, hx, hd, hm', hret, hn]
  first | (intro acts; rw [hl _ acts rfl rfl rfl]) | rw [hl _ _ rfl rfl rfl]
  exact Steps.refl _
/-- from the state A the body comes to its end, and what it leaves is Q's -/
def Go (tb : Tables) (e : Env) (below : List Frame) (s : State) (Q : Option Value → Heap → List Loc → Prop) (k n : Nat) (A : State) : Prop :=
  ∃ s₂ o, Steps tb e below A s₂ ∧ s₂.status = .running ∧ Ended s₂ below o ∧ ∃ v L, o = .returned v ∧ Q v s₂.heap L ∧ FrameEnd s o s₂ L k n
theorem Go.on {tb : Tables} {Q : Option Value → Heap → List Loc → Prop} {k n : Nat} {A B : State} (h : ∀ t, Steps tb e below B t → Steps tb e below A t) (g : Go tb e below s Q k n B) : Go tb e below s Q k n A := by
  obtain ⟨s₂, o, h1, h2⟩ := g
  exact ⟨s₂, o, h _ h1, h2⟩
theorem Go.via {tb : Tables} {Q : Option Value → Heap → List Loc → Prop} {k n : Nat} {A B : State} (h : Steps tb e below A B) (g : Go tb e below s Q k n B) : Go tb e below s Q k n A := by
  obtain ⟨s₂, o, h1, h2⟩ := g
  exact ⟨s₂, o, h.trans h1, h2⟩
theorem Go.retN (X : Stand p l e R s m args below meth c T locs cells slots) (hx : p.tables.exec = Jvm.exec) (hlk : meth.locks = false) {Q : Option Value → Heap → List Loc → Prop} {k n : Nat} {pc : Nat} {Ls : Array Slot} {z : Int32} {t : FieldType} {rest : List Value} (hret : meth.sig.returnType = some t) (ht : t = .boolean ∨ t = .byte ∨ t = .char ∨ t = .short)
    (hd : decode c.code pc = .ok (.ireturn, 1)) (hk : cells ≤ k) (hn : slots ≤ n) {h : Heap} (eT : T.heap = h) (q : Q (some (.int (nar t z))) h locs) : Go p.tables e below s Q k n (T.setTop (mkF m pc Ls (.int z :: rest))) := by
  obtain ⟨fs, hr, hrun, hended, hW, hsame⟩ := X.leave (v := some (.int (nar t z))) (fun h => by rw [hret] at h; cases h) hlk
  subst eT
  exact ⟨_, _, Jvm.RoadKit.retN X hx hret ht hd hr, hrun, hended, _, _, rfl, q, ⟨_, rfl⟩, hW, hsame.mono hk hn⟩
theorem Go.retI (X : Stand p l e R s m args below meth c T locs cells slots) (hx : p.tables.exec = Jvm.exec) (hlk : meth.locks = false) {Q : Option Value → Heap → List Loc → Prop} {k n : Nat} {pc : Nat} {Ls : Array Slot} {z : Int32} {rest : List Value} (hret : meth.sig.returnType = some .int)
    (hd : decode c.code pc = .ok (.ireturn, 1)) (hk : cells ≤ k) (hn : slots ≤ n) {h : Heap} (eT : T.heap = h) (q : Q (some (.int z)) h locs) : Go p.tables e below s Q k n (T.setTop (mkF m pc Ls (.int z :: rest))) := by
  obtain ⟨fs, hr, hrun, hended, hW, hsame⟩ := X.leave (v := some (.int z)) (fun h => by rw [hret] at h; cases h) hlk
  subst eT
  exact ⟨_, _, Jvm.RoadKit.retI X hx hret hd hr, hrun, hended, _, _, rfl, q, ⟨_, rfl⟩, hW, hsame.mono hk hn⟩
theorem Go.retJ (X : Stand p l e R s m args below meth c T locs cells slots) (hx : p.tables.exec = Jvm.exec) (hlk : meth.locks = false) {Q : Option Value → Heap → List Loc → Prop} {k n : Nat} {pc : Nat} {Ls : Array Slot} {z : Int64} (hret : meth.sig.returnType = some .long)
    (hd : decode c.code pc = .ok (.lreturn, 1)) (hk : cells ≤ k) (hn : slots ≤ n) {h : Heap} (eT : T.heap = h) (q : Q (some (.long z)) h locs) : Go p.tables e below s Q k n (T.setTop (mkF m pc Ls [.long z])) := by
  obtain ⟨fs, hr, hrun, hended, hW, hsame⟩ := X.leave (v := some (.long z)) (fun h => by rw [hret] at h; cases h) hlk
  subst eT
  exact ⟨_, _, X.lreturnOut hx hret hd hr, hrun, hended, _, _, rfl, q, ⟨_, rfl⟩, hW, hsame.mono hk hn⟩
theorem Go.retA (X : Stand p l e R s m args below meth c T locs cells slots) (hx : p.tables.exec = Jvm.exec) (hlk : meth.locks = false) {Q : Option Value → Heap → List Loc → Prop} {k n : Nat} {pc : Nat} {Ls : Array Slot} {w : Value} {t : FieldType} (hw : w.isRef = true) (hret : meth.sig.returnType = some t) (ht : t.isReference = true)
    (hd : decode c.code pc = .ok (.areturn, 1)) (hk : cells ≤ k) (hn : slots ≤ n) {h : Heap} (eT : T.heap = h) (q : Q (some w) h locs) : Go p.tables e below s Q k n (T.setTop (mkF m pc Ls [w])) := by
  obtain ⟨fs, hr, hrun, hended, hW, hsame⟩ := X.leave (v := some w) (fun h => by rw [hret] at h; cases h) hlk
  subst eT
  exact ⟨_, _, X.areturnOut hx hw hret ht hd hr, hrun, hended, _, _, rfl, q, ⟨_, rfl⟩, hW, hsame.mono hk hn⟩
theorem Go.retV (X : Stand p l e R s m args below meth c T locs cells slots) (hx : p.tables.exec = Jvm.exec) (hlk : meth.locks = false) {Q : Option Value → Heap → List Loc → Prop} {k n : Nat} {pc : Nat} {Ls : Array Slot} (hret : meth.sig.returnType = none)
    (hd : decode c.code pc = .ok (.return_, 1)) (hk : cells ≤ k) (hn : slots ≤ n) {h : Heap} (eT : T.heap = h) (q : Q none h locs) : Go p.tables e below s Q k n (T.setTop (mkF m pc Ls [])) := by
  obtain ⟨fs, hr, hrun, hended, hW, hsame⟩ := X.leave (v := none) (fun _ => rfl) hlk
  subst eT
  exact ⟨_, _, X.returnOut hx hret hd hr, hrun, hended, _, _, rfl, q, ⟨_, rfl⟩, hW, hsame.mono hk hn⟩
end New
end Jvm.RoadKit
namespace Jvm.Pilot.@@N@@
open Jvm Jvm.ClassFile Sem Op Lib Jvm.Free Jvm.Stand Jvm.LawKit Jvm.RoadKit Bundle Jvm.Pilot.@@N@@.Jvm.D

def own_b (P : Prop) [Decidable P] : Int32 := if P then 1 else 0
theorem own_b0 {P : Prop} [Decidable P] (h : own_b P = 0) : ¬ P := fun q => by rw [own_b, if_pos q] at h; cases h
theorem own_b1 {P : Prop} [Decidable P] (h : ¬ own_b P = 0) : P := Decidable.byContradiction fun q => h (by rw [own_b, if_neg q])
theorem own_bt {P : Prop} [Decidable P] (h : P) : own_b P = 1 := by rw [own_b, if_pos h]
theorem own_bf {P : Prop} [Decidable P] (h : ¬ P) : own_b P = 0 := by rw [own_b, if_neg h]

theorem own_static {args : Array Value} {s : State} {C n d K : String} (hx : (Jvm.Cond.exactly (Term.static C n d) K).value args s none s [] = some true) (hi : (Jvm.Cond.initialized C).before args s = true) (hl : (Jvm.Cond.laysStatic C n d).before args s = true) :
    ∃ a, Sta s s.heap C n d (.ref a) ∧ Exa s s.heap a K ∧ (Term.static C n d).eval args s none [] s = some (.ref a) := by
  obtain ⟨a, ev⟩ := exa_v hx
  exact ⟨a, Sta.start ev (Or.inr ⟨hi, hl⟩), Exa.start ev hx, ev⟩
theorem own_ord {args : Array Value} {s : State} {t : Term} {C n d : String} {a : Addr} {k : Int32} (ev : t.eval args s none [] s = some (.ref a)) (h : (Jvm.Cond.eq (Term.field t C n d) (Term.int k)).value args s none s [] = some true) : Fld s s.heap a C n d (.int k) := by
  obtain ⟨x, y, e1, e2, k1, k2⟩ := cmp_v (Or.inl h)
  have e3 : y = .int k := (Option.some.inj e2).symm
  subst e3
  obtain ⟨z, rfl⟩ := k2
  have e4 : z = k := by simpa [Cond.value, e1, e2] using h
  subst e4
  exact Fld.start (by rw [← fld_at ev]; exact e1)

theorem own_modr10 (p : Int32) : 0 ≤ ((p &&& (2147483647 : Int32)) % (10 : Int32)).toInt ∧ ((p &&& (2147483647 : Int32)) % (10 : Int32)).toInt < 10 := by
  have h1 := (c_and p (2147483647 : Int32) (by decide)).1
  have h2 := (c_irem (p &&& (2147483647 : Int32)) (10 : Int32) 10 (by decide)).1 h1
  rw [h2]; omega
theorem own_mod10 (p : Int32) : (p &&& (2147483647 : Int32)) % (10 : Int32) = (0 : Int32) ∨ (p &&& (2147483647 : Int32)) % (10 : Int32) = (1 : Int32) ∨ (p &&& (2147483647 : Int32)) % (10 : Int32) = (2 : Int32) ∨ (p &&& (2147483647 : Int32)) % (10 : Int32) = (3 : Int32) ∨ (p &&& (2147483647 : Int32)) % (10 : Int32) = (4 : Int32) ∨ (p &&& (2147483647 : Int32)) % (10 : Int32) = (5 : Int32) ∨ (p &&& (2147483647 : Int32)) % (10 : Int32) = (6 : Int32) ∨ (p &&& (2147483647 : Int32)) % (10 : Int32) = (7 : Int32) ∨ (p &&& (2147483647 : Int32)) % (10 : Int32) = (8 : Int32) ∨ (p &&& (2147483647 : Int32)) % (10 : Int32) = (9 : Int32) := by
  have h := own_modr10 p
  have h3 : ((p &&& (2147483647 : Int32)) % (10 : Int32)).toInt = 0 ∨ ((p &&& (2147483647 : Int32)) % (10 : Int32)).toInt = 1 ∨ ((p &&& (2147483647 : Int32)) % (10 : Int32)).toInt = 2 ∨ ((p &&& (2147483647 : Int32)) % (10 : Int32)).toInt = 3 ∨ ((p &&& (2147483647 : Int32)) % (10 : Int32)).toInt = 4 ∨ ((p &&& (2147483647 : Int32)) % (10 : Int32)).toInt = 5 ∨ ((p &&& (2147483647 : Int32)) % (10 : Int32)).toInt = 6 ∨ ((p &&& (2147483647 : Int32)) % (10 : Int32)).toInt = 7 ∨ ((p &&& (2147483647 : Int32)) % (10 : Int32)).toInt = 8 ∨ ((p &&& (2147483647 : Int32)) % (10 : Int32)).toInt = 9 := by omega
  rcases h3 with h3 | h3 | h3 | h3 | h3 | h3 | h3 | h3 | h3 | h3
  · exact Or.inl (Int32.toInt_inj.mp h3)
  · exact Or.inr (Or.inl (Int32.toInt_inj.mp h3))
  · exact Or.inr (Or.inr (Or.inl (Int32.toInt_inj.mp h3)))
  · exact Or.inr (Or.inr (Or.inr (Or.inl (Int32.toInt_inj.mp h3))))
  · exact Or.inr (Or.inr (Or.inr (Or.inr (Or.inl (Int32.toInt_inj.mp h3)))))
  · exact Or.inr (Or.inr (Or.inr (Or.inr (Or.inr (Or.inl (Int32.toInt_inj.mp h3))))))
  · exact Or.inr (Or.inr (Or.inr (Or.inr (Or.inr (Or.inr (Or.inl (Int32.toInt_inj.mp h3)))))))
  · exact Or.inr (Or.inr (Or.inr (Or.inr (Or.inr (Or.inr (Or.inr (Or.inl (Int32.toInt_inj.mp h3))))))))
  · exact Or.inr (Or.inr (Or.inr (Or.inr (Or.inr (Or.inr (Or.inr (Or.inr (Or.inl (Int32.toInt_inj.mp h3)))))))))
  · exact Or.inr (Or.inr (Or.inr (Or.inr (Or.inr (Or.inr (Or.inr (Or.inr (Or.inr (Int32.toInt_inj.mp h3)))))))))

theorem d1_0 : decode prog_132_method_6_code 0 = .ok (.aload_n 0, 1) := by decide +kernel
theorem d1_1 : decode prog_132_method_6_code 1 = .ok (.getstatic 7, 3) := by decide +kernel
theorem d1_4 : decode prog_132_method_6_code 4 = .ok (.if_acmp .eq 24, 3) := by decide +kernel
theorem d1_7 : decode prog_132_method_6_code 7 = .ok (.aload_n 0, 1) := by decide +kernel
theorem d1_8 : decode prog_132_method_6_code 8 = .ok (.getstatic 10, 3) := by decide +kernel
theorem d1_11 : decode prog_132_method_6_code 11 = .ok (.if_acmp .eq 17, 3) := by decide +kernel
theorem d1_14 : decode prog_132_method_6_code 14 = .ok (.aload_n 0, 1) := by decide +kernel
theorem d1_15 : decode prog_132_method_6_code 15 = .ok (.getstatic 13, 3) := by decide +kernel
theorem d1_18 : decode prog_132_method_6_code 18 = .ok (.if_acmp .eq 10, 3) := by decide +kernel
theorem d1_21 : decode prog_132_method_6_code 21 = .ok (.aload_n 0, 1) := by decide +kernel
theorem d1_22 : decode prog_132_method_6_code 22 = .ok (.getstatic 16, 3) := by decide +kernel
theorem d1_25 : decode prog_132_method_6_code 25 = .ok (.if_acmp .ne 7, 3) := by decide +kernel
theorem d1_28 : decode prog_132_method_6_code 28 = .ok (.iconst 1, 1) := by decide +kernel
theorem d1_29 : decode prog_132_method_6_code 29 = .ok (.goto 4, 3) := by decide +kernel
theorem d1_32 : decode prog_132_method_6_code 32 = .ok (.iconst 0, 1) := by decide +kernel
theorem d1_33 : decode prog_132_method_6_code 33 = .ok (.ireturn, 1) := by decide +kernel
theorem pd__40__41_Z : parseMethodDescriptor "()Z" = some ⟨[], some .boolean⟩ := by decide +kernel
theorem ef_1 (m : MethodId) (x0 : Addr) : entryFrame m #[(.ref x0)] 1 = mkF m 0 #[.val (.ref x0)] [] := by first | (simp [entryFrame, mkF, argsToLocals, Value.category]; done) | rfl
def Q1 (Z : State) (a1 : Addr) (s1 : Addr) (s2 : Addr) (s3 : Addr) (s4 : Addr) (h0 : Heap) (n0 : Nat) (v : Option Value) (h : Heap) (L : List Loc) : Prop := v = some (.int (own_b (a1 = s1 ∨ a1 = s2 ∨ a1 = s3 ∨ a1 = s4))) ∧ Fr n0 L ∧ h = h0
theorem pn_com_example_tidewell_tidewell_model_DataType : plainName "com/example/tidewell/tidewell/model/DataType" = true := by first | (simp [plainName, overriddenIn]; done) | decide +kernel
set_option maxRecDepth 65536 in
set_option maxHeartbeats 40000000 in
theorem rm1 (l : Launch) (Z : State) (a0 : Array Value) (hw : ∀ d ∈ tables_1, d.before a0 Z = true) (ws : List Jvm.Cond) (a1 : Addr) (s1 : Addr) (s2 : Addr) (s3 : Addr) (s4 : Addr) (h0 : Heap) (n0 : Nat) (Z0 : n0 ≤ h0.size) (Sta_INT32 : Sta Z h0 "com/example/tidewell/tidewell/model/DataType" "INT32" "Lcom/example/tidewell/tidewell/model/DataType;" (.ref s1)) (Sta_INT64 : Sta Z h0 "com/example/tidewell/tidewell/model/DataType" "INT64" "Lcom/example/tidewell/tidewell/model/DataType;" (.ref s2)) (Sta_FLOAT : Sta Z h0 "com/example/tidewell/tidewell/model/DataType" "FLOAT" "Lcom/example/tidewell/tidewell/model/DataType;" (.ref s3)) (Sta_DOUBLE : Sta Z h0 "com/example/tidewell/tidewell/model/DataType" "DOUBLE" "Lcom/example/tidewell/tidewell/model/DataType;" (.ref s4)) :
    MetFree l (⟨"com/example/tidewell/tidewell/model/DataType", "isNumeric", "()Z"⟩ : MethodName) (head1 (Jvm.Cond.code (⟨"com/example/tidewell/tidewell/model/DataType", "isNumeric", "()Z"⟩ : MethodName) prog_132_method_6_code 1 (some .boolean) :: ws) ({ frames := 0, cells := 0, slots := 0, locals := 0 } : Room)) (fun a U => a = #[(.ref a1)] ∧ Z.Warmed39 U.vm ∧ U.heap = h0) (fun _ _ _ _ _ => True) (fun _ U o U' => ∃ v L, o = .returned v ∧ Q1 Z a1 s1 s2 s3 s4 h0 n0 v U'.heap L ∧ FrameEnd U o U' L ({ frames := 0, cells := 0, slots := 0, locals := 0 } : Room).cells ({ frames := 0, cells := 0, slots := 0, locals := 0 } : Room).slots) := by
  refine MetFree.of_bodySF (plainFor_of_name pn_com_example_tidewell_tidewell_model_DataType) hisR ?_
  intro p e s m args below meth c s₁ Bd hml0 hP hK
  obtain ⟨rfl, hZ, hh⟩ := hP
  have hx := Bd.exec
  have hby := Bd.bytes
  have hlk : meth.locks = false := BodyLoose.notSynchronized Bd
  have hml : c.maxLocals = 1 := hml0
  have hown : s.vm.findClass "com/example/tidewell/tidewell/model/DataType" = some m.cls := findClass_of_methodNamed Bd.named
  have hnm := (name_of_methodNamed Bd.named Bd.method).1
  have X0 : Stand p l e ({ frames := 0, cells := 0, slots := 0, locals := 0 } : Room) s m #[(.ref a1)] below meth c s₁ [] 0 0 := Stand.of_body Bd
  have e0 : s₁.heap = h0 := by rw [← hh, Bd.state]; rfl
  have N0 := Fr.nil n0
  show Go p.tables e below s (Q1 Z a1 s1 s2 s3 s4 h0 n0) ({ frames := 0, cells := 0, slots := 0, locals := 0 } : Room).cells ({ frames := 0, cells := 0, slots := 0, locals := 0 } : Room).slots (s₁.setTop (entryFrame m #[(.ref a1)] 1))
  refine Go.on (fun t k => castTop (ef_1 m a1) k) ?_
  show Go p.tables e below s _ _ _ (s₁.setTop (mkF m 0 #[.val (.ref a1)] []))
  refine Go.on (fun t k => XS.aloadN X0.here hx rfl (hb hby d1_0) rfl rfl k) ?_
  show Go p.tables e below s _ _ _ (s₁.setTop (mkF m 1 #[.val (.ref a1)] [(.ref a1)]))
  obtain ⟨T1, X1, e1, st1⟩ := getS2 X0 hx hZ hown (host := "") (Or.inl (hw _ (List.mem_of_getElem? (i := 31) rfl))) Via.refl e0 Sta_INT32 (g := (mkF m 1 #[.val (.ref a1)] [(.ref a1)])) rfl (hb hby d1_1)
  refine Go.on st1 ?_
  show Go p.tables e below s _ _ _ (T1.setTop (mkF m 4 #[.val (.ref a1)] [(.ref s1), (.ref a1)]))
  by_cases hc4_2 : a1 = s1
  · refine Go.on (fun t k => Jvm.RoadKit.acmp (g := (mkF m 4 #[.val (.ref a1)] [(.ref s1), (.ref a1)])) X1 hx rfl rfl rfl (pc0 := 4) (pc' := 28) (same := true) rfl (hb hby d1_4) rfl (decide_eq_true (congrArg Value.ref hc4_2)) (by decide) (by decide) k) ?_
    show Go p.tables e below s _ _ _ (T1.setTop (mkF m 28 #[.val (.ref a1)] []))
    refine Go.on (fun t k => XS.iconst X1.here hx rfl (hb hby d1_28) k) ?_
    show Go p.tables e below s _ _ _ (T1.setTop (mkF m 29 #[.val (.ref a1)] [(.int (1 : Int32))]))
    refine Go.on (fun t k => XS.goto X1.here hx rfl (pc0 := 29) (pc' := 33) rfl (hb hby d1_29) (by decide) (by decide) k) ?_
    show Go p.tables e below s _ _ _ (T1.setTop (mkF m 33 #[.val (.ref a1)] [(.int (1 : Int32))]))
    refine Go.retN X1 hx hlk (t := .boolean) Bd.returns (by simp) (hb hby d1_33) (by decide) (by decide) e1 ?_
    exact ⟨(by rw [own_bt (Or.inl hc4_2)]; rfl), N0, rfl⟩
  · refine Go.on (fun t k => Jvm.RoadKit.acmp (g := (mkF m 4 #[.val (.ref a1)] [(.ref s1), (.ref a1)])) X1 hx rfl rfl rfl (pc0 := 4) (pc' := 7) (same := false) rfl (hb hby d1_4) rfl (decide_eq_false fun q => hc4_2 (Value.ref.inj q)) (by decide) (by decide) k) ?_
    show Go p.tables e below s _ _ _ (T1.setTop (mkF m 7 #[.val (.ref a1)] []))
    refine Go.on (fun t k => XS.aloadN X1.here hx rfl (hb hby d1_7) rfl rfl k) ?_
    show Go p.tables e below s _ _ _ (T1.setTop (mkF m 8 #[.val (.ref a1)] [(.ref a1)]))
    obtain ⟨T3, X3, e3, st3⟩ := getS2 X1 hx hZ hown (host := "") (Or.inl (hw _ (List.mem_of_getElem? (i := 32) rfl))) Via.refl e1 Sta_INT64 (g := (mkF m 8 #[.val (.ref a1)] [(.ref a1)])) rfl (hb hby d1_8)
    refine Go.on st3 ?_
    show Go p.tables e below s _ _ _ (T3.setTop (mkF m 11 #[.val (.ref a1)] [(.ref s2), (.ref a1)]))
    by_cases hc11_4 : a1 = s2
    · refine Go.on (fun t k => Jvm.RoadKit.acmp (g := (mkF m 11 #[.val (.ref a1)] [(.ref s2), (.ref a1)])) X3 hx rfl rfl rfl (pc0 := 11) (pc' := 28) (same := true) rfl (hb hby d1_11) rfl (decide_eq_true (congrArg Value.ref hc11_4)) (by decide) (by decide) k) ?_
      show Go p.tables e below s _ _ _ (T3.setTop (mkF m 28 #[.val (.ref a1)] []))
      refine Go.on (fun t k => XS.iconst X3.here hx rfl (hb hby d1_28) k) ?_
      show Go p.tables e below s _ _ _ (T3.setTop (mkF m 29 #[.val (.ref a1)] [(.int (1 : Int32))]))
      refine Go.on (fun t k => XS.goto X3.here hx rfl (pc0 := 29) (pc' := 33) rfl (hb hby d1_29) (by decide) (by decide) k) ?_
      show Go p.tables e below s _ _ _ (T3.setTop (mkF m 33 #[.val (.ref a1)] [(.int (1 : Int32))]))
      refine Go.retN X3 hx hlk (t := .boolean) Bd.returns (by simp) (hb hby d1_33) (by decide) (by decide) e3 ?_
      exact ⟨(by rw [own_bt (Or.inr (Or.inl hc11_4))]; rfl), N0, rfl⟩
    · refine Go.on (fun t k => Jvm.RoadKit.acmp (g := (mkF m 11 #[.val (.ref a1)] [(.ref s2), (.ref a1)])) X3 hx rfl rfl rfl (pc0 := 11) (pc' := 14) (same := false) rfl (hb hby d1_11) rfl (decide_eq_false fun q => hc11_4 (Value.ref.inj q)) (by decide) (by decide) k) ?_
      show Go p.tables e below s _ _ _ (T3.setTop (mkF m 14 #[.val (.ref a1)] []))
      refine Go.on (fun t k => XS.aloadN X3.here hx rfl (hb hby d1_14) rfl rfl k) ?_
      show Go p.tables e below s _ _ _ (T3.setTop (mkF m 15 #[.val (.ref a1)] [(.ref a1)]))
      obtain ⟨T5, X5, e5, st5⟩ := getS2 X3 hx hZ hown (host := "") (Or.inl (hw _ (List.mem_of_getElem? (i := 33) rfl))) Via.refl e3 Sta_FLOAT (g := (mkF m 15 #[.val (.ref a1)] [(.ref a1)])) rfl (hb hby d1_15)
      refine Go.on st5 ?_
      show Go p.tables e below s _ _ _ (T5.setTop (mkF m 18 #[.val (.ref a1)] [(.ref s3), (.ref a1)]))
      by_cases hc18_6 : a1 = s3
      · refine Go.on (fun t k => Jvm.RoadKit.acmp (g := (mkF m 18 #[.val (.ref a1)] [(.ref s3), (.ref a1)])) X5 hx rfl rfl rfl (pc0 := 18) (pc' := 28) (same := true) rfl (hb hby d1_18) rfl (decide_eq_true (congrArg Value.ref hc18_6)) (by decide) (by decide) k) ?_
        show Go p.tables e below s _ _ _ (T5.setTop (mkF m 28 #[.val (.ref a1)] []))
        refine Go.on (fun t k => XS.iconst X5.here hx rfl (hb hby d1_28) k) ?_
        show Go p.tables e below s _ _ _ (T5.setTop (mkF m 29 #[.val (.ref a1)] [(.int (1 : Int32))]))
        refine Go.on (fun t k => XS.goto X5.here hx rfl (pc0 := 29) (pc' := 33) rfl (hb hby d1_29) (by decide) (by decide) k) ?_
        show Go p.tables e below s _ _ _ (T5.setTop (mkF m 33 #[.val (.ref a1)] [(.int (1 : Int32))]))
        refine Go.retN X5 hx hlk (t := .boolean) Bd.returns (by simp) (hb hby d1_33) (by decide) (by decide) e5 ?_
        exact ⟨(by rw [own_bt (Or.inr (Or.inr (Or.inl hc18_6)))]; rfl), N0, rfl⟩
      · refine Go.on (fun t k => Jvm.RoadKit.acmp (g := (mkF m 18 #[.val (.ref a1)] [(.ref s3), (.ref a1)])) X5 hx rfl rfl rfl (pc0 := 18) (pc' := 21) (same := false) rfl (hb hby d1_18) rfl (decide_eq_false fun q => hc18_6 (Value.ref.inj q)) (by decide) (by decide) k) ?_
        show Go p.tables e below s _ _ _ (T5.setTop (mkF m 21 #[.val (.ref a1)] []))
        refine Go.on (fun t k => XS.aloadN X5.here hx rfl (hb hby d1_21) rfl rfl k) ?_
        show Go p.tables e below s _ _ _ (T5.setTop (mkF m 22 #[.val (.ref a1)] [(.ref a1)]))
        obtain ⟨T7, X7, e7, st7⟩ := getS2 X5 hx hZ hown (host := "") (Or.inl (hw _ (List.mem_of_getElem? (i := 34) rfl))) Via.refl e5 Sta_DOUBLE (g := (mkF m 22 #[.val (.ref a1)] [(.ref a1)])) rfl (hb hby d1_22)
        refine Go.on st7 ?_
        show Go p.tables e below s _ _ _ (T7.setTop (mkF m 25 #[.val (.ref a1)] [(.ref s4), (.ref a1)]))
        by_cases hc25_8 : a1 = s4
        · refine Go.on (fun t k => Jvm.RoadKit.acmp (g := (mkF m 25 #[.val (.ref a1)] [(.ref s4), (.ref a1)])) X7 hx rfl rfl rfl (pc0 := 25) (pc' := 28) (same := true) rfl (hb hby d1_25) rfl (decide_eq_true (congrArg Value.ref hc25_8)) (by decide) (by decide) k) ?_
          show Go p.tables e below s _ _ _ (T7.setTop (mkF m 28 #[.val (.ref a1)] []))
          refine Go.on (fun t k => XS.iconst X7.here hx rfl (hb hby d1_28) k) ?_
          show Go p.tables e below s _ _ _ (T7.setTop (mkF m 29 #[.val (.ref a1)] [(.int (1 : Int32))]))
          refine Go.on (fun t k => XS.goto X7.here hx rfl (pc0 := 29) (pc' := 33) rfl (hb hby d1_29) (by decide) (by decide) k) ?_
          show Go p.tables e below s _ _ _ (T7.setTop (mkF m 33 #[.val (.ref a1)] [(.int (1 : Int32))]))
          refine Go.retN X7 hx hlk (t := .boolean) Bd.returns (by simp) (hb hby d1_33) (by decide) (by decide) e7 ?_
          exact ⟨(by rw [own_bt (Or.inr (Or.inr (Or.inr (hc25_8))))]; rfl), N0, rfl⟩
        · refine Go.on (fun t k => Jvm.RoadKit.acmp (g := (mkF m 25 #[.val (.ref a1)] [(.ref s4), (.ref a1)])) X7 hx rfl rfl rfl (pc0 := 25) (pc' := 32) (same := false) rfl (hb hby d1_25) rfl (decide_eq_false fun q => hc25_8 (Value.ref.inj q)) (by decide) (by decide) k) ?_
          show Go p.tables e below s _ _ _ (T7.setTop (mkF m 32 #[.val (.ref a1)] []))
          refine Go.on (fun t k => XS.iconst X7.here hx rfl (hb hby d1_32) k) ?_
          show Go p.tables e below s _ _ _ (T7.setTop (mkF m 33 #[.val (.ref a1)] [(.int (0 : Int32))]))
          refine Go.retN X7 hx hlk (t := .boolean) Bd.returns (by simp) (hb hby d1_33) (by decide) (by decide) e7 ?_
          exact ⟨(by rw [own_bf (fun q => by rcases q with q | q | q | q <;> contradiction)]; rfl), N0, rfl⟩
theorem d2_0 : decode prog_132_method_7_code 0 = .ok (.aload_n 0, 1) := by decide +kernel
theorem d2_1 : decode prog_132_method_7_code 1 = .ok (.getstatic 19, 3) := by decide +kernel
theorem d2_4 : decode prog_132_method_7_code 4 = .ok (.if_acmp .eq 10, 3) := by decide +kernel
theorem d2_7 : decode prog_132_method_7_code 7 = .ok (.aload_n 0, 1) := by decide +kernel
theorem d2_8 : decode prog_132_method_7_code 8 = .ok (.getstatic 22, 3) := by decide +kernel
theorem d2_11 : decode prog_132_method_7_code 11 = .ok (.if_acmp .ne 7, 3) := by decide +kernel
theorem d2_14 : decode prog_132_method_7_code 14 = .ok (.iconst 1, 1) := by decide +kernel
theorem d2_15 : decode prog_132_method_7_code 15 = .ok (.goto 4, 3) := by decide +kernel
theorem d2_18 : decode prog_132_method_7_code 18 = .ok (.iconst 0, 1) := by decide +kernel
theorem d2_19 : decode prog_132_method_7_code 19 = .ok (.ireturn, 1) := by decide +kernel
theorem ef_2 (m : MethodId) (x0 : Addr) : entryFrame m #[(.ref x0)] 1 = mkF m 0 #[.val (.ref x0)] [] := by first | (simp [entryFrame, mkF, argsToLocals, Value.category]; done) | rfl
def Q2 (Z : State) (a1 : Addr) (s5 : Addr) (s6 : Addr) (h0 : Heap) (n0 : Nat) (v : Option Value) (h : Heap) (L : List Loc) : Prop := v = some (.int (own_b (a1 = s5 ∨ a1 = s6))) ∧ Fr n0 L ∧ h = h0
set_option maxRecDepth 65536 in
set_option maxHeartbeats 40000000 in
theorem rm2 (l : Launch) (Z : State) (a0 : Array Value) (hw : ∀ d ∈ tables_1, d.before a0 Z = true) (ws : List Jvm.Cond) (a1 : Addr) (s5 : Addr) (s6 : Addr) (h0 : Heap) (n0 : Nat) (Z0 : n0 ≤ h0.size) (Sta_TEXT : Sta Z h0 "com/example/tidewell/tidewell/model/DataType" "TEXT" "Lcom/example/tidewell/tidewell/model/DataType;" (.ref s5)) (Sta_STRING : Sta Z h0 "com/example/tidewell/tidewell/model/DataType" "STRING" "Lcom/example/tidewell/tidewell/model/DataType;" (.ref s6)) :
    MetFree l (⟨"com/example/tidewell/tidewell/model/DataType", "isCharacter", "()Z"⟩ : MethodName) (head1 (Jvm.Cond.code (⟨"com/example/tidewell/tidewell/model/DataType", "isCharacter", "()Z"⟩ : MethodName) prog_132_method_7_code 1 (some .boolean) :: ws) ({ frames := 0, cells := 0, slots := 0, locals := 0 } : Room)) (fun a U => a = #[(.ref a1)] ∧ Z.Warmed39 U.vm ∧ U.heap = h0) (fun _ _ _ _ _ => True) (fun _ U o U' => ∃ v L, o = .returned v ∧ Q2 Z a1 s5 s6 h0 n0 v U'.heap L ∧ FrameEnd U o U' L ({ frames := 0, cells := 0, slots := 0, locals := 0 } : Room).cells ({ frames := 0, cells := 0, slots := 0, locals := 0 } : Room).slots) := by
  refine MetFree.of_bodySF (plainFor_of_name pn_com_example_tidewell_tidewell_model_DataType) hisR ?_
  intro p e s m args below meth c s₁ Bd hml0 hP hK
  obtain ⟨rfl, hZ, hh⟩ := hP
  have hx := Bd.exec
  have hby := Bd.bytes
  have hlk : meth.locks = false := BodyLoose.notSynchronized Bd
  have hml : c.maxLocals = 1 := hml0
  have hown : s.vm.findClass "com/example/tidewell/tidewell/model/DataType" = some m.cls := findClass_of_methodNamed Bd.named
  have hnm := (name_of_methodNamed Bd.named Bd.method).1
  have X0 : Stand p l e ({ frames := 0, cells := 0, slots := 0, locals := 0 } : Room) s m #[(.ref a1)] below meth c s₁ [] 0 0 := Stand.of_body Bd
  have e0 : s₁.heap = h0 := by rw [← hh, Bd.state]; rfl
  have N0 := Fr.nil n0
  show Go p.tables e below s (Q2 Z a1 s5 s6 h0 n0) ({ frames := 0, cells := 0, slots := 0, locals := 0 } : Room).cells ({ frames := 0, cells := 0, slots := 0, locals := 0 } : Room).slots (s₁.setTop (entryFrame m #[(.ref a1)] 1))
  refine Go.on (fun t k => castTop (ef_2 m a1) k) ?_
  show Go p.tables e below s _ _ _ (s₁.setTop (mkF m 0 #[.val (.ref a1)] []))
  refine Go.on (fun t k => XS.aloadN X0.here hx rfl (hb hby d2_0) rfl rfl k) ?_
  show Go p.tables e below s _ _ _ (s₁.setTop (mkF m 1 #[.val (.ref a1)] [(.ref a1)]))
  obtain ⟨T1, X1, e1, st1⟩ := getS2 X0 hx hZ hown (host := "") (Or.inl (hw _ (List.mem_of_getElem? (i := 40) rfl))) Via.refl e0 Sta_TEXT (g := (mkF m 1 #[.val (.ref a1)] [(.ref a1)])) rfl (hb hby d2_1)
  refine Go.on st1 ?_
  show Go p.tables e below s _ _ _ (T1.setTop (mkF m 4 #[.val (.ref a1)] [(.ref s5), (.ref a1)]))
  by_cases hc4_2 : a1 = s5
  · refine Go.on (fun t k => Jvm.RoadKit.acmp (g := (mkF m 4 #[.val (.ref a1)] [(.ref s5), (.ref a1)])) X1 hx rfl rfl rfl (pc0 := 4) (pc' := 14) (same := true) rfl (hb hby d2_4) rfl (decide_eq_true (congrArg Value.ref hc4_2)) (by decide) (by decide) k) ?_
    show Go p.tables e below s _ _ _ (T1.setTop (mkF m 14 #[.val (.ref a1)] []))
    refine Go.on (fun t k => XS.iconst X1.here hx rfl (hb hby d2_14) k) ?_
    show Go p.tables e below s _ _ _ (T1.setTop (mkF m 15 #[.val (.ref a1)] [(.int (1 : Int32))]))
    refine Go.on (fun t k => XS.goto X1.here hx rfl (pc0 := 15) (pc' := 19) rfl (hb hby d2_15) (by decide) (by decide) k) ?_
    show Go p.tables e below s _ _ _ (T1.setTop (mkF m 19 #[.val (.ref a1)] [(.int (1 : Int32))]))
    refine Go.retN X1 hx hlk (t := .boolean) Bd.returns (by simp) (hb hby d2_19) (by decide) (by decide) e1 ?_
    exact ⟨(by rw [own_bt (Or.inl hc4_2)]; rfl), N0, rfl⟩
  · refine Go.on (fun t k => Jvm.RoadKit.acmp (g := (mkF m 4 #[.val (.ref a1)] [(.ref s5), (.ref a1)])) X1 hx rfl rfl rfl (pc0 := 4) (pc' := 7) (same := false) rfl (hb hby d2_4) rfl (decide_eq_false fun q => hc4_2 (Value.ref.inj q)) (by decide) (by decide) k) ?_
    show Go p.tables e below s _ _ _ (T1.setTop (mkF m 7 #[.val (.ref a1)] []))
    refine Go.on (fun t k => XS.aloadN X1.here hx rfl (hb hby d2_7) rfl rfl k) ?_
    show Go p.tables e below s _ _ _ (T1.setTop (mkF m 8 #[.val (.ref a1)] [(.ref a1)]))
    obtain ⟨T3, X3, e3, st3⟩ := getS2 X1 hx hZ hown (host := "") (Or.inl (hw _ (List.mem_of_getElem? (i := 41) rfl))) Via.refl e1 Sta_STRING (g := (mkF m 8 #[.val (.ref a1)] [(.ref a1)])) rfl (hb hby d2_8)
    refine Go.on st3 ?_
    show Go p.tables e below s _ _ _ (T3.setTop (mkF m 11 #[.val (.ref a1)] [(.ref s6), (.ref a1)]))
    by_cases hc11_4 : a1 = s6
    · refine Go.on (fun t k => Jvm.RoadKit.acmp (g := (mkF m 11 #[.val (.ref a1)] [(.ref s6), (.ref a1)])) X3 hx rfl rfl rfl (pc0 := 11) (pc' := 14) (same := true) rfl (hb hby d2_11) rfl (decide_eq_true (congrArg Value.ref hc11_4)) (by decide) (by decide) k) ?_
      show Go p.tables e below s _ _ _ (T3.setTop (mkF m 14 #[.val (.ref a1)] []))
      refine Go.on (fun t k => XS.iconst X3.here hx rfl (hb hby d2_14) k) ?_
      show Go p.tables e below s _ _ _ (T3.setTop (mkF m 15 #[.val (.ref a1)] [(.int (1 : Int32))]))
      refine Go.on (fun t k => XS.goto X3.here hx rfl (pc0 := 15) (pc' := 19) rfl (hb hby d2_15) (by decide) (by decide) k) ?_
      show Go p.tables e below s _ _ _ (T3.setTop (mkF m 19 #[.val (.ref a1)] [(.int (1 : Int32))]))
      refine Go.retN X3 hx hlk (t := .boolean) Bd.returns (by simp) (hb hby d2_19) (by decide) (by decide) e3 ?_
      exact ⟨(by rw [own_bt (Or.inr (hc11_4))]; rfl), N0, rfl⟩
    · refine Go.on (fun t k => Jvm.RoadKit.acmp (g := (mkF m 11 #[.val (.ref a1)] [(.ref s6), (.ref a1)])) X3 hx rfl rfl rfl (pc0 := 11) (pc' := 18) (same := false) rfl (hb hby d2_11) rfl (decide_eq_false fun q => hc11_4 (Value.ref.inj q)) (by decide) (by decide) k) ?_
      show Go p.tables e below s _ _ _ (T3.setTop (mkF m 18 #[.val (.ref a1)] []))
      refine Go.on (fun t k => XS.iconst X3.here hx rfl (hb hby d2_18) k) ?_
      show Go p.tables e below s _ _ _ (T3.setTop (mkF m 19 #[.val (.ref a1)] [(.int (0 : Int32))]))
      refine Go.retN X3 hx hlk (t := .boolean) Bd.returns (by simp) (hb hby d2_19) (by decide) (by decide) e3 ?_
      exact ⟨(by rw [own_bf (fun q => by rcases q with q | q <;> contradiction)]; rfl), N0, rfl⟩
theorem ef_0 (m : MethodId) (x0 : Int32) : entryFrame m #[(.int x0)] maxLocals = mkF m 0 #[.val (.int x0), .unset, .unset, .unset, .unset, .unset] [] := by first | (simp [entryFrame, mkF, argsToLocals, Value.category, maxLocals]; done) | rfl
def Q0 (Z : State) (p1 : Int32) (s0 : Addr) (s1 : Addr) (s2 : Addr) (s3 : Addr) (s4 : Addr) (s5 : Addr) (s6 : Addr) (s7 : Addr) (s8 : Addr) (s9 : Addr) (h0 : Heap) (n0 : Nat) (v : Option Value) (h : Heap) (L : List Loc) : Prop := v = some (.int (1 : Int32)) ∧ Fr n0 L
theorem pn_com_example_tidewell_tidewell_model_DataTypeIsNumericPinLaw : plainName "com/example/tidewell/tidewell/model/DataTypeIsNumericPinLaw" = true := by first | (simp [plainName, overriddenIn]; done) | decide +kernel
set_option maxRecDepth 65536 in
set_option maxHeartbeats 40000000 in
theorem rm0 (l : Launch) (Z : State) (a0 : Array Value) (hw : ∀ d ∈ tables_1, d.before a0 Z = true) (ws : List Jvm.Cond) (p1 : Int32) (s0 : Addr) (s1 : Addr) (s2 : Addr) (s3 : Addr) (s4 : Addr) (s5 : Addr) (s6 : Addr) (s7 : Addr) (s8 : Addr) (s9 : Addr) (h0 : Heap) (n0 : Nat) (Z0 : n0 ≤ h0.size) (Old0 : Old Z n0 h0) (Sta_BOOLEAN : Sta Z Z.heap "com/example/tidewell/tidewell/model/DataType" "BOOLEAN" "Lcom/example/tidewell/tidewell/model/DataType;" (.ref s0)) (Sta_INT32 : Sta Z Z.heap "com/example/tidewell/tidewell/model/DataType" "INT32" "Lcom/example/tidewell/tidewell/model/DataType;" (.ref s1)) (Sta_INT64 : Sta Z Z.heap "com/example/tidewell/tidewell/model/DataType" "INT64" "Lcom/example/tidewell/tidewell/model/DataType;" (.ref s2)) (Sta_FLOAT : Sta Z Z.heap "com/example/tidewell/tidewell/model/DataType" "FLOAT" "Lcom/example/tidewell/tidewell/model/DataType;" (.ref s3)) (Sta_DOUBLE : Sta Z Z.heap "com/example/tidewell/tidewell/model/DataType" "DOUBLE" "Lcom/example/tidewell/tidewell/model/DataType;" (.ref s4)) (Sta_TEXT : Sta Z Z.heap "com/example/tidewell/tidewell/model/DataType" "TEXT" "Lcom/example/tidewell/tidewell/model/DataType;" (.ref s5)) (Sta_STRING : Sta Z Z.heap "com/example/tidewell/tidewell/model/DataType" "STRING" "Lcom/example/tidewell/tidewell/model/DataType;" (.ref s6)) (Sta_BLOB : Sta Z Z.heap "com/example/tidewell/tidewell/model/DataType" "BLOB" "Lcom/example/tidewell/tidewell/model/DataType;" (.ref s7)) (Sta_TIMESTAMP : Sta Z Z.heap "com/example/tidewell/tidewell/model/DataType" "TIMESTAMP" "Lcom/example/tidewell/tidewell/model/DataType;" (.ref s8)) (Sta_DATE : Sta Z Z.heap "com/example/tidewell/tidewell/model/DataType" "DATE" "Lcom/example/tidewell/tidewell/model/DataType;" (.ref s9)) (E_s0 : Exa Z Z.heap s0 "com/example/tidewell/tidewell/model/DataType") (E_s1 : Exa Z Z.heap s1 "com/example/tidewell/tidewell/model/DataType") (E_s2 : Exa Z Z.heap s2 "com/example/tidewell/tidewell/model/DataType") (E_s3 : Exa Z Z.heap s3 "com/example/tidewell/tidewell/model/DataType") (E_s4 : Exa Z Z.heap s4 "com/example/tidewell/tidewell/model/DataType") (E_s5 : Exa Z Z.heap s5 "com/example/tidewell/tidewell/model/DataType") (E_s6 : Exa Z Z.heap s6 "com/example/tidewell/tidewell/model/DataType") (E_s7 : Exa Z Z.heap s7 "com/example/tidewell/tidewell/model/DataType") (E_s8 : Exa Z Z.heap s8 "com/example/tidewell/tidewell/model/DataType") (E_s9 : Exa Z Z.heap s9 "com/example/tidewell/tidewell/model/DataType") (O_s0 : Fld Z Z.heap s0 "java/lang/Enum" "ordinal" "I" (.int (0 : Int32))) (O_s1 : Fld Z Z.heap s1 "java/lang/Enum" "ordinal" "I" (.int (1 : Int32))) (O_s2 : Fld Z Z.heap s2 "java/lang/Enum" "ordinal" "I" (.int (2 : Int32))) (O_s3 : Fld Z Z.heap s3 "java/lang/Enum" "ordinal" "I" (.int (3 : Int32))) (O_s4 : Fld Z Z.heap s4 "java/lang/Enum" "ordinal" "I" (.int (4 : Int32))) (O_s5 : Fld Z Z.heap s5 "java/lang/Enum" "ordinal" "I" (.int (5 : Int32))) (O_s6 : Fld Z Z.heap s6 "java/lang/Enum" "ordinal" "I" (.int (6 : Int32))) (O_s7 : Fld Z Z.heap s7 "java/lang/Enum" "ordinal" "I" (.int (7 : Int32))) (O_s8 : Fld Z Z.heap s8 "java/lang/Enum" "ordinal" "I" (.int (8 : Int32))) (O_s9 : Fld Z Z.heap s9 "java/lang/Enum" "ordinal" "I" (.int (9 : Int32))) :
    MetFree l x (head1 (Jvm.Cond.code x code maxLocals ret :: ws) room_1) (fun a U => a = #[(.int p1)] ∧ Z.Warmed39 U.vm ∧ U.heap = h0) (fun _ _ _ _ _ => True) (fun _ U o U' => ∃ v L, o = .returned v ∧ Q0 Z p1 s0 s1 s2 s3 s4 s5 s6 s7 s8 s9 h0 n0 v U'.heap L ∧ FrameEnd U o U' L room_1.cells room_1.slots) := by
  refine MetFree.of_bodySF (plainFor_of_name pn_com_example_tidewell_tidewell_model_DataTypeIsNumericPinLaw) hisR ?_
  intro p e s m args below meth c s₁ Bd hml0 hP hK
  obtain ⟨rfl, hZ, hh⟩ := hP
  have hx := Bd.exec
  have hby := Bd.bytes
  have hlk : meth.locks = false := BodyLoose.notSynchronized Bd
  have hml : c.maxLocals = 6 := hml0
  have hown : s.vm.findClass "com/example/tidewell/tidewell/model/DataTypeIsNumericPinLaw" = some m.cls := findClass_of_methodNamed Bd.named
  have hnm := (name_of_methodNamed Bd.named Bd.method).1
  have X0 : Stand p l e room_1 s m #[(.int p1)] below meth c s₁ [] 0 0 := Stand.of_body Bd
  have e0 : s₁.heap = h0 := by rw [← hh, Bd.state]; rfl
  have N0 := Fr.nil n0
  show Go p.tables e below s (Q0 Z p1 s0 s1 s2 s3 s4 s5 s6 s7 s8 s9 h0 n0) room_1.cells room_1.slots (s₁.setTop (entryFrame m #[(.int p1)] maxLocals))
  refine Go.on (fun t k => castTop (ef_0 m p1) k) ?_
  show Go p.tables e below s _ _ _ (s₁.setTop (mkF m 0 #[.val (.int p1), .unset, .unset, .unset, .unset, .unset] []))
  refine Go.on (fun t k => XS.bipush X0.here hx rfl (hb hby at_0) k) ?_
  show Go p.tables e below s _ _ _ (s₁.setTop (mkF m 2 #[.val (.int p1), .unset, .unset, .unset, .unset, .unset] [(.int (10 : Int32))]))
  obtain ⟨T1, h1, k1, X1, e1, E1, A1, O1, st1⟩ := newR X0 hx hZ hown (hw _ (List.mem_of_getElem? (i := 0) rfl)) (hw _ (List.mem_of_getElem? (i := 1) rfl)) e0 (g := (mkF m 2 #[.val (.int p1), .unset, .unset, .unset, .unset, .unset] [(.int (10 : Int32))])) rfl (hb hby at_2) rfl (by decide) (cap := 10) (by decide) (by decide) (by decide) (by decide)
  obtain ⟨b1, g1⟩ : ∃ z, z = h0.size := ⟨_, rfl⟩
  rw [← g1] at A1 st1
  have ge2 : n0 ≤ b1 := Nat.le_trans Z0 (Nat.le_of_eq g1.symm)
  have Old0_4 := Old0.ext E1
  have Zp5 := Nat.le_trans Z0 E1.1
  have Vb1_6 : Arv Z h1 b1 k1 (.object "com/example/tidewell/tidewell/model/DataType") (10 : Int32) [.null, .null, .null, .null, .null, .null, .null, .null, .null, .null] .null := (Arv.new A1 (by decide)).pad (pad_rep [] .null 10)
  refine Go.on st1 ?_
  show Go p.tables e below s _ _ _ (T1.setTop (mkF m 5 #[.val (.int p1), .unset, .unset, .unset, .unset, .unset] [(.ref b1)]))
  refine Go.on (fun t k => XS.dup X1.here hx rfl (hb hby at_5) rfl rfl k) ?_
  show Go p.tables e below s _ _ _ (T1.setTop (mkF m 6 #[.val (.int p1), .unset, .unset, .unset, .unset, .unset] [(.ref b1), (.ref b1)]))
  refine Go.on (fun t k => XS.iconst X1.here hx rfl (hb hby at_6) k) ?_
  show Go p.tables e below s _ _ _ (T1.setTop (mkF m 7 #[.val (.int p1), .unset, .unset, .unset, .unset, .unset] [(.int (0 : Int32)), (.ref b1), (.ref b1)]))
  obtain ⟨T7, X7, e7, st7⟩ := getS2 X1 hx hZ hown (host := "") (Or.inl (hw _ (List.mem_of_getElem? (i := 2) rfl))) Via.refl e1 (Sta_BOOLEAN.ext Old0_4.2) (g := (mkF m 7 #[.val (.int p1), .unset, .unset, .unset, .unset, .unset] [(.int (0 : Int32)), (.ref b1), (.ref b1)])) rfl (hb hby at_7)
  refine Go.on st7 ?_
  show Go p.tables e below s _ _ _ (T7.setTop (mkF m 10 #[.val (.int p1), .unset, .unset, .unset, .unset, .unset] [(.ref s0), (.int (0 : Int32)), (.ref b1), (.ref b1)]))
  obtain ⟨cl8, Ar8, q8, S8, M8, H8, G8⟩ := id Vb1_6
  have hin8 : ¬ ((0 : Int32) < 0 ∨ cl8.slots.size ≤ ((0 : Int32)).toNatClampNeg) := inb_of S8 ⟨by decide, by decide⟩
  have Sto8 : Sto Z h1 b1 (.ref s0) := Sto.ofV Ar8 q8 O1 (Ins.self (E_s0.ext Old0_4.2))
  obtain ⟨T8, h8, X8, e8, W8, st8⟩ := stR X7 hx hZ e7 Ar8 (j := (0 : Int32)) hin8 rfl Sto8 (g := (mkF m 10 #[.val (.int p1), .unset, .unset, .unset, .unset, .unset] [(.ref s0), (.int (0 : Int32)), (.ref b1), (.ref b1)])) rfl rfl (hb hby at_10)
  have Vb1_9 : Arv Z h8 b1 k1 (.object "com/example/tidewell/tidewell/model/DataType") (10 : Int32) [(.ref s0), .null, .null, .null, .null, .null, .null, .null, .null, .null] .null := Arv.set Ar8 q8 S8 M8 H8 G8 rfl W8 0 rfl (Nat.le_of_ble_eq_true rfl)
  have Old0_10 := Old0_4.wr W8 ge2
  have Zp11 := Nat.le_trans Zp5 (Keep.of_wr W8).1
  have Np12 := Fr.snoc X8 N0 ge2
  refine Go.on st8 ?_
  show Go p.tables e below s _ _ _ (T8.setTop (mkF m 11 #[.val (.int p1), .unset, .unset, .unset, .unset, .unset] [(.ref b1)]))
  refine Go.on (fun t k => XS.dup X8.here hx rfl (hb hby at_11) rfl rfl k) ?_
  show Go p.tables e below s _ _ _ (T8.setTop (mkF m 12 #[.val (.int p1), .unset, .unset, .unset, .unset, .unset] [(.ref b1), (.ref b1)]))
  refine Go.on (fun t k => XS.iconst X8.here hx rfl (hb hby at_12) k) ?_
  show Go p.tables e below s _ _ _ (T8.setTop (mkF m 13 #[.val (.int p1), .unset, .unset, .unset, .unset, .unset] [(.int (1 : Int32)), (.ref b1), (.ref b1)]))
  obtain ⟨T13, X13, e13, st13⟩ := getS2 X8 hx hZ hown (host := "") (Or.inl (hw _ (List.mem_of_getElem? (i := 6) rfl))) Via.refl e8 (Sta_INT32.ext Old0_10.2) (g := (mkF m 13 #[.val (.int p1), .unset, .unset, .unset, .unset, .unset] [(.int (1 : Int32)), (.ref b1), (.ref b1)])) rfl (hb hby at_13)
  refine Go.on st13 ?_
  show Go p.tables e below s _ _ _ (T13.setTop (mkF m 16 #[.val (.int p1), .unset, .unset, .unset, .unset, .unset] [(.ref s1), (.int (1 : Int32)), (.ref b1), (.ref b1)]))
  obtain ⟨cl14, Ar14, q14, S14, M14, H14, G14⟩ := id Vb1_9
  have hin14 : ¬ ((1 : Int32) < 0 ∨ cl14.slots.size ≤ ((1 : Int32)).toNatClampNeg) := inb_of S14 ⟨by decide, by decide⟩
  have Sto14 : Sto Z h8 b1 (.ref s1) := Sto.ofV Ar14 q14 O1 (Ins.self (E_s1.ext Old0_10.2))
  obtain ⟨T14, h14, X14, e14, W14, st14⟩ := stR X13 hx hZ e13 Ar14 (j := (1 : Int32)) hin14 rfl Sto14 (g := (mkF m 16 #[.val (.int p1), .unset, .unset, .unset, .unset, .unset] [(.ref s1), (.int (1 : Int32)), (.ref b1), (.ref b1)])) rfl rfl (hb hby at_16)
  have Vb1_15 : Arv Z h14 b1 k1 (.object "com/example/tidewell/tidewell/model/DataType") (10 : Int32) [(.ref s0), (.ref s1), .null, .null, .null, .null, .null, .null, .null, .null] .null := Arv.set Ar14 q14 S14 M14 H14 G14 rfl W14 1 rfl (Nat.le_of_ble_eq_true rfl)
  have Old0_16 := Old0_10.wr W14 ge2
  have Zp17 := Nat.le_trans Zp11 (Keep.of_wr W14).1
  have Np18 := Fr.snoc X14 Np12 ge2
  refine Go.on st14 ?_
  show Go p.tables e below s _ _ _ (T14.setTop (mkF m 17 #[.val (.int p1), .unset, .unset, .unset, .unset, .unset] [(.ref b1)]))
  refine Go.on (fun t k => XS.dup X14.here hx rfl (hb hby at_17) rfl rfl k) ?_
  show Go p.tables e below s _ _ _ (T14.setTop (mkF m 18 #[.val (.int p1), .unset, .unset, .unset, .unset, .unset] [(.ref b1), (.ref b1)]))
  refine Go.on (fun t k => XS.iconst X14.here hx rfl (hb hby at_18) k) ?_
  show Go p.tables e below s _ _ _ (T14.setTop (mkF m 19 #[.val (.int p1), .unset, .unset, .unset, .unset, .unset] [(.int (2 : Int32)), (.ref b1), (.ref b1)]))
  obtain ⟨T19, X19, e19, st19⟩ := getS2 X14 hx hZ hown (host := "") (Or.inl (hw _ (List.mem_of_getElem? (i := 8) rfl))) Via.refl e14 (Sta_INT64.ext Old0_16.2) (g := (mkF m 19 #[.val (.int p1), .unset, .unset, .unset, .unset, .unset] [(.int (2 : Int32)), (.ref b1), (.ref b1)])) rfl (hb hby at_19)
  refine Go.on st19 ?_
  show Go p.tables e below s _ _ _ (T19.setTop (mkF m 22 #[.val (.int p1), .unset, .unset, .unset, .unset, .unset] [(.ref s2), (.int (2 : Int32)), (.ref b1), (.ref b1)]))
  obtain ⟨cl20, Ar20, q20, S20, M20, H20, G20⟩ := id Vb1_15
  have hin20 : ¬ ((2 : Int32) < 0 ∨ cl20.slots.size ≤ ((2 : Int32)).toNatClampNeg) := inb_of S20 ⟨by decide, by decide⟩
  have Sto20 : Sto Z h14 b1 (.ref s2) := Sto.ofV Ar20 q20 O1 (Ins.self (E_s2.ext Old0_16.2))
  obtain ⟨T20, h20, X20, e20, W20, st20⟩ := stR X19 hx hZ e19 Ar20 (j := (2 : Int32)) hin20 rfl Sto20 (g := (mkF m 22 #[.val (.int p1), .unset, .unset, .unset, .unset, .unset] [(.ref s2), (.int (2 : Int32)), (.ref b1), (.ref b1)])) rfl rfl (hb hby at_22)
  have Vb1_21 : Arv Z h20 b1 k1 (.object "com/example/tidewell/tidewell/model/DataType") (10 : Int32) [(.ref s0), (.ref s1), (.ref s2), .null, .null, .null, .null, .null, .null, .null] .null := Arv.set Ar20 q20 S20 M20 H20 G20 rfl W20 2 rfl (Nat.le_of_ble_eq_true rfl)
  have Old0_22 := Old0_16.wr W20 ge2
  have Zp23 := Nat.le_trans Zp17 (Keep.of_wr W20).1
  have Np24 := Fr.snoc X20 Np18 ge2
  refine Go.on st20 ?_
  show Go p.tables e below s _ _ _ (T20.setTop (mkF m 23 #[.val (.int p1), .unset, .unset, .unset, .unset, .unset] [(.ref b1)]))
  refine Go.on (fun t k => XS.dup X20.here hx rfl (hb hby at_23) rfl rfl k) ?_
  show Go p.tables e below s _ _ _ (T20.setTop (mkF m 24 #[.val (.int p1), .unset, .unset, .unset, .unset, .unset] [(.ref b1), (.ref b1)]))
  refine Go.on (fun t k => XS.iconst X20.here hx rfl (hb hby at_24) k) ?_
  show Go p.tables e below s _ _ _ (T20.setTop (mkF m 25 #[.val (.int p1), .unset, .unset, .unset, .unset, .unset] [(.int (3 : Int32)), (.ref b1), (.ref b1)]))
  obtain ⟨T25, X25, e25, st25⟩ := getS2 X20 hx hZ hown (host := "") (Or.inl (hw _ (List.mem_of_getElem? (i := 10) rfl))) Via.refl e20 (Sta_FLOAT.ext Old0_22.2) (g := (mkF m 25 #[.val (.int p1), .unset, .unset, .unset, .unset, .unset] [(.int (3 : Int32)), (.ref b1), (.ref b1)])) rfl (hb hby at_25)
  refine Go.on st25 ?_
  show Go p.tables e below s _ _ _ (T25.setTop (mkF m 28 #[.val (.int p1), .unset, .unset, .unset, .unset, .unset] [(.ref s3), (.int (3 : Int32)), (.ref b1), (.ref b1)]))
  obtain ⟨cl26, Ar26, q26, S26, M26, H26, G26⟩ := id Vb1_21
  have hin26 : ¬ ((3 : Int32) < 0 ∨ cl26.slots.size ≤ ((3 : Int32)).toNatClampNeg) := inb_of S26 ⟨by decide, by decide⟩
  have Sto26 : Sto Z h20 b1 (.ref s3) := Sto.ofV Ar26 q26 O1 (Ins.self (E_s3.ext Old0_22.2))
  obtain ⟨T26, h26, X26, e26, W26, st26⟩ := stR X25 hx hZ e25 Ar26 (j := (3 : Int32)) hin26 rfl Sto26 (g := (mkF m 28 #[.val (.int p1), .unset, .unset, .unset, .unset, .unset] [(.ref s3), (.int (3 : Int32)), (.ref b1), (.ref b1)])) rfl rfl (hb hby at_28)
  have Vb1_27 : Arv Z h26 b1 k1 (.object "com/example/tidewell/tidewell/model/DataType") (10 : Int32) [(.ref s0), (.ref s1), (.ref s2), (.ref s3), .null, .null, .null, .null, .null, .null] .null := Arv.set Ar26 q26 S26 M26 H26 G26 rfl W26 3 rfl (Nat.le_of_ble_eq_true rfl)
  have Old0_28 := Old0_22.wr W26 ge2
  have Zp29 := Nat.le_trans Zp23 (Keep.of_wr W26).1
  have Np30 := Fr.snoc X26 Np24 ge2
  refine Go.on st26 ?_
  show Go p.tables e below s _ _ _ (T26.setTop (mkF m 29 #[.val (.int p1), .unset, .unset, .unset, .unset, .unset] [(.ref b1)]))
  refine Go.on (fun t k => XS.dup X26.here hx rfl (hb hby at_29) rfl rfl k) ?_
  show Go p.tables e below s _ _ _ (T26.setTop (mkF m 30 #[.val (.int p1), .unset, .unset, .unset, .unset, .unset] [(.ref b1), (.ref b1)]))
  refine Go.on (fun t k => XS.iconst X26.here hx rfl (hb hby at_30) k) ?_
  show Go p.tables e below s _ _ _ (T26.setTop (mkF m 31 #[.val (.int p1), .unset, .unset, .unset, .unset, .unset] [(.int (4 : Int32)), (.ref b1), (.ref b1)]))
  obtain ⟨T31, X31, e31, st31⟩ := getS2 X26 hx hZ hown (host := "") (Or.inl (hw _ (List.mem_of_getElem? (i := 12) rfl))) Via.refl e26 (Sta_DOUBLE.ext Old0_28.2) (g := (mkF m 31 #[.val (.int p1), .unset, .unset, .unset, .unset, .unset] [(.int (4 : Int32)), (.ref b1), (.ref b1)])) rfl (hb hby at_31)
  refine Go.on st31 ?_
  show Go p.tables e below s _ _ _ (T31.setTop (mkF m 34 #[.val (.int p1), .unset, .unset, .unset, .unset, .unset] [(.ref s4), (.int (4 : Int32)), (.ref b1), (.ref b1)]))
  obtain ⟨cl32, Ar32, q32, S32, M32, H32, G32⟩ := id Vb1_27
  have hin32 : ¬ ((4 : Int32) < 0 ∨ cl32.slots.size ≤ ((4 : Int32)).toNatClampNeg) := inb_of S32 ⟨by decide, by decide⟩
  have Sto32 : Sto Z h26 b1 (.ref s4) := Sto.ofV Ar32 q32 O1 (Ins.self (E_s4.ext Old0_28.2))
  obtain ⟨T32, h32, X32, e32, W32, st32⟩ := stR X31 hx hZ e31 Ar32 (j := (4 : Int32)) hin32 rfl Sto32 (g := (mkF m 34 #[.val (.int p1), .unset, .unset, .unset, .unset, .unset] [(.ref s4), (.int (4 : Int32)), (.ref b1), (.ref b1)])) rfl rfl (hb hby at_34)
  have Vb1_33 : Arv Z h32 b1 k1 (.object "com/example/tidewell/tidewell/model/DataType") (10 : Int32) [(.ref s0), (.ref s1), (.ref s2), (.ref s3), (.ref s4), .null, .null, .null, .null, .null] .null := Arv.set Ar32 q32 S32 M32 H32 G32 rfl W32 4 rfl (Nat.le_of_ble_eq_true rfl)
  have Old0_34 := Old0_28.wr W32 ge2
  have Zp35 := Nat.le_trans Zp29 (Keep.of_wr W32).1
  have Np36 := Fr.snoc X32 Np30 ge2
  refine Go.on st32 ?_
  show Go p.tables e below s _ _ _ (T32.setTop (mkF m 35 #[.val (.int p1), .unset, .unset, .unset, .unset, .unset] [(.ref b1)]))
  refine Go.on (fun t k => XS.dup X32.here hx rfl (hb hby at_35) rfl rfl k) ?_
  show Go p.tables e below s _ _ _ (T32.setTop (mkF m 36 #[.val (.int p1), .unset, .unset, .unset, .unset, .unset] [(.ref b1), (.ref b1)]))
  refine Go.on (fun t k => XS.iconst X32.here hx rfl (hb hby at_36) k) ?_
  show Go p.tables e below s _ _ _ (T32.setTop (mkF m 37 #[.val (.int p1), .unset, .unset, .unset, .unset, .unset] [(.int (5 : Int32)), (.ref b1), (.ref b1)]))
  obtain ⟨T37, X37, e37, st37⟩ := getS2 X32 hx hZ hown (host := "") (Or.inl (hw _ (List.mem_of_getElem? (i := 14) rfl))) Via.refl e32 (Sta_TEXT.ext Old0_34.2) (g := (mkF m 37 #[.val (.int p1), .unset, .unset, .unset, .unset, .unset] [(.int (5 : Int32)), (.ref b1), (.ref b1)])) rfl (hb hby at_37)
  refine Go.on st37 ?_
  show Go p.tables e below s _ _ _ (T37.setTop (mkF m 40 #[.val (.int p1), .unset, .unset, .unset, .unset, .unset] [(.ref s5), (.int (5 : Int32)), (.ref b1), (.ref b1)]))
  obtain ⟨cl38, Ar38, q38, S38, M38, H38, G38⟩ := id Vb1_33
  have hin38 : ¬ ((5 : Int32) < 0 ∨ cl38.slots.size ≤ ((5 : Int32)).toNatClampNeg) := inb_of S38 ⟨by decide, by decide⟩
  have Sto38 : Sto Z h32 b1 (.ref s5) := Sto.ofV Ar38 q38 O1 (Ins.self (E_s5.ext Old0_34.2))
  obtain ⟨T38, h38, X38, e38, W38, st38⟩ := stR X37 hx hZ e37 Ar38 (j := (5 : Int32)) hin38 rfl Sto38 (g := (mkF m 40 #[.val (.int p1), .unset, .unset, .unset, .unset, .unset] [(.ref s5), (.int (5 : Int32)), (.ref b1), (.ref b1)])) rfl rfl (hb hby at_40)
  have Vb1_39 : Arv Z h38 b1 k1 (.object "com/example/tidewell/tidewell/model/DataType") (10 : Int32) [(.ref s0), (.ref s1), (.ref s2), (.ref s3), (.ref s4), (.ref s5), .null, .null, .null, .null] .null := Arv.set Ar38 q38 S38 M38 H38 G38 rfl W38 5 rfl (Nat.le_of_ble_eq_true rfl)
  have Old0_40 := Old0_34.wr W38 ge2
  have Zp41 := Nat.le_trans Zp35 (Keep.of_wr W38).1
  have Np42 := Fr.snoc X38 Np36 ge2
  refine Go.on st38 ?_
  show Go p.tables e below s _ _ _ (T38.setTop (mkF m 41 #[.val (.int p1), .unset, .unset, .unset, .unset, .unset] [(.ref b1)]))
  refine Go.on (fun t k => XS.dup X38.here hx rfl (hb hby at_41) rfl rfl k) ?_
  show Go p.tables e below s _ _ _ (T38.setTop (mkF m 42 #[.val (.int p1), .unset, .unset, .unset, .unset, .unset] [(.ref b1), (.ref b1)]))
  refine Go.on (fun t k => XS.bipush X38.here hx rfl (hb hby at_42) k) ?_
  show Go p.tables e below s _ _ _ (T38.setTop (mkF m 44 #[.val (.int p1), .unset, .unset, .unset, .unset, .unset] [(.int (6 : Int32)), (.ref b1), (.ref b1)]))
  obtain ⟨T43, X43, e43, st43⟩ := getS2 X38 hx hZ hown (host := "") (Or.inl (hw _ (List.mem_of_getElem? (i := 16) rfl))) Via.refl e38 (Sta_STRING.ext Old0_40.2) (g := (mkF m 44 #[.val (.int p1), .unset, .unset, .unset, .unset, .unset] [(.int (6 : Int32)), (.ref b1), (.ref b1)])) rfl (hb hby at_44)
  refine Go.on st43 ?_
  show Go p.tables e below s _ _ _ (T43.setTop (mkF m 47 #[.val (.int p1), .unset, .unset, .unset, .unset, .unset] [(.ref s6), (.int (6 : Int32)), (.ref b1), (.ref b1)]))
  obtain ⟨cl44, Ar44, q44, S44, M44, H44, G44⟩ := id Vb1_39
  have hin44 : ¬ ((6 : Int32) < 0 ∨ cl44.slots.size ≤ ((6 : Int32)).toNatClampNeg) := inb_of S44 ⟨by decide, by decide⟩
  have Sto44 : Sto Z h38 b1 (.ref s6) := Sto.ofV Ar44 q44 O1 (Ins.self (E_s6.ext Old0_40.2))
  obtain ⟨T44, h44, X44, e44, W44, st44⟩ := stR X43 hx hZ e43 Ar44 (j := (6 : Int32)) hin44 rfl Sto44 (g := (mkF m 47 #[.val (.int p1), .unset, .unset, .unset, .unset, .unset] [(.ref s6), (.int (6 : Int32)), (.ref b1), (.ref b1)])) rfl rfl (hb hby at_47)
  have Vb1_45 : Arv Z h44 b1 k1 (.object "com/example/tidewell/tidewell/model/DataType") (10 : Int32) [(.ref s0), (.ref s1), (.ref s2), (.ref s3), (.ref s4), (.ref s5), (.ref s6), .null, .null, .null] .null := Arv.set Ar44 q44 S44 M44 H44 G44 rfl W44 6 rfl (Nat.le_of_ble_eq_true rfl)
  have Old0_46 := Old0_40.wr W44 ge2
  have Zp47 := Nat.le_trans Zp41 (Keep.of_wr W44).1
  have Np48 := Fr.snoc X44 Np42 ge2
  refine Go.on st44 ?_
  show Go p.tables e below s _ _ _ (T44.setTop (mkF m 48 #[.val (.int p1), .unset, .unset, .unset, .unset, .unset] [(.ref b1)]))
  refine Go.on (fun t k => XS.dup X44.here hx rfl (hb hby at_48) rfl rfl k) ?_
  show Go p.tables e below s _ _ _ (T44.setTop (mkF m 49 #[.val (.int p1), .unset, .unset, .unset, .unset, .unset] [(.ref b1), (.ref b1)]))
  refine Go.on (fun t k => XS.bipush X44.here hx rfl (hb hby at_49) k) ?_
  show Go p.tables e below s _ _ _ (T44.setTop (mkF m 51 #[.val (.int p1), .unset, .unset, .unset, .unset, .unset] [(.int (7 : Int32)), (.ref b1), (.ref b1)]))
  obtain ⟨T49, X49, e49, st49⟩ := getS2 X44 hx hZ hown (host := "") (Or.inl (hw _ (List.mem_of_getElem? (i := 18) rfl))) Via.refl e44 (Sta_BLOB.ext Old0_46.2) (g := (mkF m 51 #[.val (.int p1), .unset, .unset, .unset, .unset, .unset] [(.int (7 : Int32)), (.ref b1), (.ref b1)])) rfl (hb hby at_51)
  refine Go.on st49 ?_
  show Go p.tables e below s _ _ _ (T49.setTop (mkF m 54 #[.val (.int p1), .unset, .unset, .unset, .unset, .unset] [(.ref s7), (.int (7 : Int32)), (.ref b1), (.ref b1)]))
  obtain ⟨cl50, Ar50, q50, S50, M50, H50, G50⟩ := id Vb1_45
  have hin50 : ¬ ((7 : Int32) < 0 ∨ cl50.slots.size ≤ ((7 : Int32)).toNatClampNeg) := inb_of S50 ⟨by decide, by decide⟩
  have Sto50 : Sto Z h44 b1 (.ref s7) := Sto.ofV Ar50 q50 O1 (Ins.self (E_s7.ext Old0_46.2))
  obtain ⟨T50, h50, X50, e50, W50, st50⟩ := stR X49 hx hZ e49 Ar50 (j := (7 : Int32)) hin50 rfl Sto50 (g := (mkF m 54 #[.val (.int p1), .unset, .unset, .unset, .unset, .unset] [(.ref s7), (.int (7 : Int32)), (.ref b1), (.ref b1)])) rfl rfl (hb hby at_54)
  have Vb1_51 : Arv Z h50 b1 k1 (.object "com/example/tidewell/tidewell/model/DataType") (10 : Int32) [(.ref s0), (.ref s1), (.ref s2), (.ref s3), (.ref s4), (.ref s5), (.ref s6), (.ref s7), .null, .null] .null := Arv.set Ar50 q50 S50 M50 H50 G50 rfl W50 7 rfl (Nat.le_of_ble_eq_true rfl)
  have Old0_52 := Old0_46.wr W50 ge2
  have Zp53 := Nat.le_trans Zp47 (Keep.of_wr W50).1
  have Np54 := Fr.snoc X50 Np48 ge2
  refine Go.on st50 ?_
  show Go p.tables e below s _ _ _ (T50.setTop (mkF m 55 #[.val (.int p1), .unset, .unset, .unset, .unset, .unset] [(.ref b1)]))
  refine Go.on (fun t k => XS.dup X50.here hx rfl (hb hby at_55) rfl rfl k) ?_
  show Go p.tables e below s _ _ _ (T50.setTop (mkF m 56 #[.val (.int p1), .unset, .unset, .unset, .unset, .unset] [(.ref b1), (.ref b1)]))
  refine Go.on (fun t k => XS.bipush X50.here hx rfl (hb hby at_56) k) ?_
  show Go p.tables e below s _ _ _ (T50.setTop (mkF m 58 #[.val (.int p1), .unset, .unset, .unset, .unset, .unset] [(.int (8 : Int32)), (.ref b1), (.ref b1)]))
  obtain ⟨T55, X55, e55, st55⟩ := getS2 X50 hx hZ hown (host := "") (Or.inl (hw _ (List.mem_of_getElem? (i := 20) rfl))) Via.refl e50 (Sta_TIMESTAMP.ext Old0_52.2) (g := (mkF m 58 #[.val (.int p1), .unset, .unset, .unset, .unset, .unset] [(.int (8 : Int32)), (.ref b1), (.ref b1)])) rfl (hb hby at_58)
  refine Go.on st55 ?_
  show Go p.tables e below s _ _ _ (T55.setTop (mkF m 61 #[.val (.int p1), .unset, .unset, .unset, .unset, .unset] [(.ref s8), (.int (8 : Int32)), (.ref b1), (.ref b1)]))
  obtain ⟨cl56, Ar56, q56, S56, M56, H56, G56⟩ := id Vb1_51
  have hin56 : ¬ ((8 : Int32) < 0 ∨ cl56.slots.size ≤ ((8 : Int32)).toNatClampNeg) := inb_of S56 ⟨by decide, by decide⟩
  have Sto56 : Sto Z h50 b1 (.ref s8) := Sto.ofV Ar56 q56 O1 (Ins.self (E_s8.ext Old0_52.2))
  obtain ⟨T56, h56, X56, e56, W56, st56⟩ := stR X55 hx hZ e55 Ar56 (j := (8 : Int32)) hin56 rfl Sto56 (g := (mkF m 61 #[.val (.int p1), .unset, .unset, .unset, .unset, .unset] [(.ref s8), (.int (8 : Int32)), (.ref b1), (.ref b1)])) rfl rfl (hb hby at_61)
  have Vb1_57 : Arv Z h56 b1 k1 (.object "com/example/tidewell/tidewell/model/DataType") (10 : Int32) [(.ref s0), (.ref s1), (.ref s2), (.ref s3), (.ref s4), (.ref s5), (.ref s6), (.ref s7), (.ref s8), .null] .null := Arv.set Ar56 q56 S56 M56 H56 G56 rfl W56 8 rfl (Nat.le_of_ble_eq_true rfl)
  have Old0_58 := Old0_52.wr W56 ge2
  have Zp59 := Nat.le_trans Zp53 (Keep.of_wr W56).1
  have Np60 := Fr.snoc X56 Np54 ge2
  refine Go.on st56 ?_
  show Go p.tables e below s _ _ _ (T56.setTop (mkF m 62 #[.val (.int p1), .unset, .unset, .unset, .unset, .unset] [(.ref b1)]))
  refine Go.on (fun t k => XS.dup X56.here hx rfl (hb hby at_62) rfl rfl k) ?_
  show Go p.tables e below s _ _ _ (T56.setTop (mkF m 63 #[.val (.int p1), .unset, .unset, .unset, .unset, .unset] [(.ref b1), (.ref b1)]))
  refine Go.on (fun t k => XS.bipush X56.here hx rfl (hb hby at_63) k) ?_
  show Go p.tables e below s _ _ _ (T56.setTop (mkF m 65 #[.val (.int p1), .unset, .unset, .unset, .unset, .unset] [(.int (9 : Int32)), (.ref b1), (.ref b1)]))
  obtain ⟨T61, X61, e61, st61⟩ := getS2 X56 hx hZ hown (host := "") (Or.inl (hw _ (List.mem_of_getElem? (i := 22) rfl))) Via.refl e56 (Sta_DATE.ext Old0_58.2) (g := (mkF m 65 #[.val (.int p1), .unset, .unset, .unset, .unset, .unset] [(.int (9 : Int32)), (.ref b1), (.ref b1)])) rfl (hb hby at_65)
  refine Go.on st61 ?_
  show Go p.tables e below s _ _ _ (T61.setTop (mkF m 68 #[.val (.int p1), .unset, .unset, .unset, .unset, .unset] [(.ref s9), (.int (9 : Int32)), (.ref b1), (.ref b1)]))
  obtain ⟨cl62, Ar62, q62, S62, M62, H62, G62⟩ := id Vb1_57
  have hin62 : ¬ ((9 : Int32) < 0 ∨ cl62.slots.size ≤ ((9 : Int32)).toNatClampNeg) := inb_of S62 ⟨by decide, by decide⟩
  have Sto62 : Sto Z h56 b1 (.ref s9) := Sto.ofV Ar62 q62 O1 (Ins.self (E_s9.ext Old0_58.2))
  obtain ⟨T62, h62, X62, e62, W62, st62⟩ := stR X61 hx hZ e61 Ar62 (j := (9 : Int32)) hin62 rfl Sto62 (g := (mkF m 68 #[.val (.int p1), .unset, .unset, .unset, .unset, .unset] [(.ref s9), (.int (9 : Int32)), (.ref b1), (.ref b1)])) rfl rfl (hb hby at_68)
  have Vb1_63 : Arv Z h62 b1 k1 (.object "com/example/tidewell/tidewell/model/DataType") (10 : Int32) [(.ref s0), (.ref s1), (.ref s2), (.ref s3), (.ref s4), (.ref s5), (.ref s6), (.ref s7), (.ref s8), (.ref s9)] .null := Arv.set Ar62 q62 S62 M62 H62 G62 rfl W62 9 rfl (Nat.le_of_ble_eq_true rfl)
  have Old0_64 := Old0_58.wr W62 ge2
  have Zp65 := Nat.le_trans Zp59 (Keep.of_wr W62).1
  have Np66 := Fr.snoc X62 Np60 ge2
  refine Go.on st62 ?_
  show Go p.tables e below s _ _ _ (T62.setTop (mkF m 69 #[.val (.int p1), .unset, .unset, .unset, .unset, .unset] [(.ref b1)]))
  refine Go.on (fun t k => XS.astoreN X62.here hx rfl (hb hby at_69) rfl rfl (l' := #[.val (.int p1), .val (.ref b1), .unset, .unset, .unset, .unset]) rfl k) ?_
  show Go p.tables e below s _ _ _ (T62.setTop (mkF m 70 #[.val (.int p1), .val (.ref b1), .unset, .unset, .unset, .unset] []))
  refine Go.on (fun t k => XS.bipush X62.here hx rfl (hb hby at_70) k) ?_
  show Go p.tables e below s _ _ _ (T62.setTop (mkF m 72 #[.val (.int p1), .val (.ref b1), .unset, .unset, .unset, .unset] [(.int (10 : Int32))]))
  obtain ⟨T67, h67, k67, X67, e67, E67, A67, st67⟩ := newP X62 hx hZ (hw _ (List.mem_of_getElem? (i := 24) rfl)) e62 (g := (mkF m 72 #[.val (.int p1), .val (.ref b1), .unset, .unset, .unset, .unset] [(.int (10 : Int32))])) rfl (hb hby at_72) rfl (by decide) (cap := 10) (by decide) (by decide) (by decide) (by decide)
  obtain ⟨b67, g67⟩ : ∃ z, z = h62.size := ⟨_, rfl⟩
  rw [← g67] at A67 st67
  have ne68 : b1 ≠ b67 := Nat.ne_of_lt (Nat.lt_of_lt_of_eq Vb1_63.lt g67.symm)
  have ge69 : n0 ≤ b67 := Nat.le_trans Zp65 (Nat.le_of_eq g67.symm)
  have Old0_71 := Old0_64.ext E67
  have Vb1_72 := Vb1_63.ext E67
  have Zp73 := Nat.le_trans Zp65 E67.1
  have Vb67_74 : Arv Z h67 b67 k67 .boolean (10 : Int32) [(.int (0 : Int32)), (.int (0 : Int32)), (.int (0 : Int32)), (.int (0 : Int32)), (.int (0 : Int32)), (.int (0 : Int32)), (.int (0 : Int32)), (.int (0 : Int32)), (.int (0 : Int32)), (.int (0 : Int32))] (.int (0 : Int32)) := (Arv.new A67 (by decide)).pad (pad_rep [] (.int (0 : Int32)) 10)
  refine Go.on st67 ?_
  show Go p.tables e below s _ _ _ (T67.setTop (mkF m 74 #[.val (.int p1), .val (.ref b1), .unset, .unset, .unset, .unset] [(.ref b67)]))
  refine Go.on (fun t k => XS.dup X67.here hx rfl (hb hby at_74) rfl rfl k) ?_
  show Go p.tables e below s _ _ _ (T67.setTop (mkF m 75 #[.val (.int p1), .val (.ref b1), .unset, .unset, .unset, .unset] [(.ref b67), (.ref b67)]))
  refine Go.on (fun t k => XS.iconst X67.here hx rfl (hb hby at_75) k) ?_
  show Go p.tables e below s _ _ _ (T67.setTop (mkF m 76 #[.val (.int p1), .val (.ref b1), .unset, .unset, .unset, .unset] [(.int (0 : Int32)), (.ref b67), (.ref b67)]))
  refine Go.on (fun t k => XS.iconst X67.here hx rfl (hb hby at_76) k) ?_
  show Go p.tables e below s _ _ _ (T67.setTop (mkF m 77 #[.val (.int p1), .val (.ref b1), .unset, .unset, .unset, .unset] [(.int (0 : Int32)), (.int (0 : Int32)), (.ref b67), (.ref b67)]))
  obtain ⟨cl75, Ar75, q75, S75, M75, H75, G75⟩ := id Vb67_74
  have hin75 : ¬ ((0 : Int32) < 0 ∨ cl75.slots.size ≤ ((0 : Int32)).toNatClampNeg) := inb_of S75 ⟨by decide, by decide⟩
  obtain ⟨T75, h75, X75, e75, W75, st75⟩ := stZ X67 hx hZ e67 Ar75 (j := (0 : Int32)) hin75 (g := (mkF m 77 #[.val (.int p1), .val (.ref b1), .unset, .unset, .unset, .unset] [(.int (0 : Int32)), (.int (0 : Int32)), (.ref b67), (.ref b67)])) rfl rfl (hb hby at_77)
  have Vb67_76 : Arv Z h75 b67 k67 .boolean (10 : Int32) [(.int (0 : Int32)), (.int (0 : Int32)), (.int (0 : Int32)), (.int (0 : Int32)), (.int (0 : Int32)), (.int (0 : Int32)), (.int (0 : Int32)), (.int (0 : Int32)), (.int (0 : Int32)), (.int (0 : Int32))] (.int (0 : Int32)) := Arv.set Ar75 q75 S75 M75 H75 G75 (fits_nar_bool _) W75 0 rfl (Nat.le_of_ble_eq_true rfl)
  have Old0_77 := Old0_71.wr W75 ge69
  have Vb1_78 := Vb1_72.other W75 ne68
  have Zp79 := Nat.le_trans Zp73 (Keep.of_wr W75).1
  have Np80 := Fr.snoc X75 Np66 ge69
  refine Go.on st75 ?_
  show Go p.tables e below s _ _ _ (T75.setTop (mkF m 78 #[.val (.int p1), .val (.ref b1), .unset, .unset, .unset, .unset] [(.ref b67)]))
  refine Go.on (fun t k => XS.dup X75.here hx rfl (hb hby at_78) rfl rfl k) ?_
  show Go p.tables e below s _ _ _ (T75.setTop (mkF m 79 #[.val (.int p1), .val (.ref b1), .unset, .unset, .unset, .unset] [(.ref b67), (.ref b67)]))
  refine Go.on (fun t k => XS.iconst X75.here hx rfl (hb hby at_79) k) ?_
  show Go p.tables e below s _ _ _ (T75.setTop (mkF m 80 #[.val (.int p1), .val (.ref b1), .unset, .unset, .unset, .unset] [(.int (1 : Int32)), (.ref b67), (.ref b67)]))
  refine Go.on (fun t k => XS.iconst X75.here hx rfl (hb hby at_80) k) ?_
  show Go p.tables e below s _ _ _ (T75.setTop (mkF m 81 #[.val (.int p1), .val (.ref b1), .unset, .unset, .unset, .unset] [(.int (1 : Int32)), (.int (1 : Int32)), (.ref b67), (.ref b67)]))
  obtain ⟨cl81, Ar81, q81, S81, M81, H81, G81⟩ := id Vb67_76
  have hin81 : ¬ ((1 : Int32) < 0 ∨ cl81.slots.size ≤ ((1 : Int32)).toNatClampNeg) := inb_of S81 ⟨by decide, by decide⟩
  obtain ⟨T81, h81, X81, e81, W81, st81⟩ := stZ X75 hx hZ e75 Ar81 (j := (1 : Int32)) hin81 (g := (mkF m 81 #[.val (.int p1), .val (.ref b1), .unset, .unset, .unset, .unset] [(.int (1 : Int32)), (.int (1 : Int32)), (.ref b67), (.ref b67)])) rfl rfl (hb hby at_81)
  have Vb67_82 : Arv Z h81 b67 k67 .boolean (10 : Int32) [(.int (0 : Int32)), (.int (1 : Int32)), (.int (0 : Int32)), (.int (0 : Int32)), (.int (0 : Int32)), (.int (0 : Int32)), (.int (0 : Int32)), (.int (0 : Int32)), (.int (0 : Int32)), (.int (0 : Int32))] (.int (0 : Int32)) := Arv.set Ar81 q81 S81 M81 H81 G81 (fits_nar_bool _) W81 1 rfl (Nat.le_of_ble_eq_true rfl)
  have Old0_83 := Old0_77.wr W81 ge69
  have Vb1_84 := Vb1_78.other W81 ne68
  have Zp85 := Nat.le_trans Zp79 (Keep.of_wr W81).1
  have Np86 := Fr.snoc X81 Np80 ge69
  refine Go.on st81 ?_
  show Go p.tables e below s _ _ _ (T81.setTop (mkF m 82 #[.val (.int p1), .val (.ref b1), .unset, .unset, .unset, .unset] [(.ref b67)]))
  refine Go.on (fun t k => XS.dup X81.here hx rfl (hb hby at_82) rfl rfl k) ?_
  show Go p.tables e below s _ _ _ (T81.setTop (mkF m 83 #[.val (.int p1), .val (.ref b1), .unset, .unset, .unset, .unset] [(.ref b67), (.ref b67)]))
  refine Go.on (fun t k => XS.iconst X81.here hx rfl (hb hby at_83) k) ?_
  show Go p.tables e below s _ _ _ (T81.setTop (mkF m 84 #[.val (.int p1), .val (.ref b1), .unset, .unset, .unset, .unset] [(.int (2 : Int32)), (.ref b67), (.ref b67)]))
  refine Go.on (fun t k => XS.iconst X81.here hx rfl (hb hby at_84) k) ?_
  show Go p.tables e below s _ _ _ (T81.setTop (mkF m 85 #[.val (.int p1), .val (.ref b1), .unset, .unset, .unset, .unset] [(.int (1 : Int32)), (.int (2 : Int32)), (.ref b67), (.ref b67)]))
  obtain ⟨cl87, Ar87, q87, S87, M87, H87, G87⟩ := id Vb67_82
  have hin87 : ¬ ((2 : Int32) < 0 ∨ cl87.slots.size ≤ ((2 : Int32)).toNatClampNeg) := inb_of S87 ⟨by decide, by decide⟩
  obtain ⟨T87, h87, X87, e87, W87, st87⟩ := stZ X81 hx hZ e81 Ar87 (j := (2 : Int32)) hin87 (g := (mkF m 85 #[.val (.int p1), .val (.ref b1), .unset, .unset, .unset, .unset] [(.int (1 : Int32)), (.int (2 : Int32)), (.ref b67), (.ref b67)])) rfl rfl (hb hby at_85)
  have Vb67_88 : Arv Z h87 b67 k67 .boolean (10 : Int32) [(.int (0 : Int32)), (.int (1 : Int32)), (.int (1 : Int32)), (.int (0 : Int32)), (.int (0 : Int32)), (.int (0 : Int32)), (.int (0 : Int32)), (.int (0 : Int32)), (.int (0 : Int32)), (.int (0 : Int32))] (.int (0 : Int32)) := Arv.set Ar87 q87 S87 M87 H87 G87 (fits_nar_bool _) W87 2 rfl (Nat.le_of_ble_eq_true rfl)
  have Old0_89 := Old0_83.wr W87 ge69
  have Vb1_90 := Vb1_84.other W87 ne68
  have Zp91 := Nat.le_trans Zp85 (Keep.of_wr W87).1
  have Np92 := Fr.snoc X87 Np86 ge69
  refine Go.on st87 ?_
  show Go p.tables e below s _ _ _ (T87.setTop (mkF m 86 #[.val (.int p1), .val (.ref b1), .unset, .unset, .unset, .unset] [(.ref b67)]))
  refine Go.on (fun t k => XS.dup X87.here hx rfl (hb hby at_86) rfl rfl k) ?_
  show Go p.tables e below s _ _ _ (T87.setTop (mkF m 87 #[.val (.int p1), .val (.ref b1), .unset, .unset, .unset, .unset] [(.ref b67), (.ref b67)]))
  refine Go.on (fun t k => XS.iconst X87.here hx rfl (hb hby at_87) k) ?_
  show Go p.tables e below s _ _ _ (T87.setTop (mkF m 88 #[.val (.int p1), .val (.ref b1), .unset, .unset, .unset, .unset] [(.int (3 : Int32)), (.ref b67), (.ref b67)]))
  refine Go.on (fun t k => XS.iconst X87.here hx rfl (hb hby at_88) k) ?_
  show Go p.tables e below s _ _ _ (T87.setTop (mkF m 89 #[.val (.int p1), .val (.ref b1), .unset, .unset, .unset, .unset] [(.int (1 : Int32)), (.int (3 : Int32)), (.ref b67), (.ref b67)]))
  obtain ⟨cl93, Ar93, q93, S93, M93, H93, G93⟩ := id Vb67_88
  have hin93 : ¬ ((3 : Int32) < 0 ∨ cl93.slots.size ≤ ((3 : Int32)).toNatClampNeg) := inb_of S93 ⟨by decide, by decide⟩
  obtain ⟨T93, h93, X93, e93, W93, st93⟩ := stZ X87 hx hZ e87 Ar93 (j := (3 : Int32)) hin93 (g := (mkF m 89 #[.val (.int p1), .val (.ref b1), .unset, .unset, .unset, .unset] [(.int (1 : Int32)), (.int (3 : Int32)), (.ref b67), (.ref b67)])) rfl rfl (hb hby at_89)
  have Vb67_94 : Arv Z h93 b67 k67 .boolean (10 : Int32) [(.int (0 : Int32)), (.int (1 : Int32)), (.int (1 : Int32)), (.int (1 : Int32)), (.int (0 : Int32)), (.int (0 : Int32)), (.int (0 : Int32)), (.int (0 : Int32)), (.int (0 : Int32)), (.int (0 : Int32))] (.int (0 : Int32)) := Arv.set Ar93 q93 S93 M93 H93 G93 (fits_nar_bool _) W93 3 rfl (Nat.le_of_ble_eq_true rfl)
  have Old0_95 := Old0_89.wr W93 ge69
  have Vb1_96 := Vb1_90.other W93 ne68
  have Zp97 := Nat.le_trans Zp91 (Keep.of_wr W93).1
  have Np98 := Fr.snoc X93 Np92 ge69
  refine Go.on st93 ?_
  show Go p.tables e below s _ _ _ (T93.setTop (mkF m 90 #[.val (.int p1), .val (.ref b1), .unset, .unset, .unset, .unset] [(.ref b67)]))
  refine Go.on (fun t k => XS.dup X93.here hx rfl (hb hby at_90) rfl rfl k) ?_
  show Go p.tables e below s _ _ _ (T93.setTop (mkF m 91 #[.val (.int p1), .val (.ref b1), .unset, .unset, .unset, .unset] [(.ref b67), (.ref b67)]))
  refine Go.on (fun t k => XS.iconst X93.here hx rfl (hb hby at_91) k) ?_
  show Go p.tables e below s _ _ _ (T93.setTop (mkF m 92 #[.val (.int p1), .val (.ref b1), .unset, .unset, .unset, .unset] [(.int (4 : Int32)), (.ref b67), (.ref b67)]))
  refine Go.on (fun t k => XS.iconst X93.here hx rfl (hb hby at_92) k) ?_
  show Go p.tables e below s _ _ _ (T93.setTop (mkF m 93 #[.val (.int p1), .val (.ref b1), .unset, .unset, .unset, .unset] [(.int (1 : Int32)), (.int (4 : Int32)), (.ref b67), (.ref b67)]))
  obtain ⟨cl99, Ar99, q99, S99, M99, H99, G99⟩ := id Vb67_94
  have hin99 : ¬ ((4 : Int32) < 0 ∨ cl99.slots.size ≤ ((4 : Int32)).toNatClampNeg) := inb_of S99 ⟨by decide, by decide⟩
  obtain ⟨T99, h99, X99, e99, W99, st99⟩ := stZ X93 hx hZ e93 Ar99 (j := (4 : Int32)) hin99 (g := (mkF m 93 #[.val (.int p1), .val (.ref b1), .unset, .unset, .unset, .unset] [(.int (1 : Int32)), (.int (4 : Int32)), (.ref b67), (.ref b67)])) rfl rfl (hb hby at_93)
  have Vb67_100 : Arv Z h99 b67 k67 .boolean (10 : Int32) [(.int (0 : Int32)), (.int (1 : Int32)), (.int (1 : Int32)), (.int (1 : Int32)), (.int (1 : Int32)), (.int (0 : Int32)), (.int (0 : Int32)), (.int (0 : Int32)), (.int (0 : Int32)), (.int (0 : Int32))] (.int (0 : Int32)) := Arv.set Ar99 q99 S99 M99 H99 G99 (fits_nar_bool _) W99 4 rfl (Nat.le_of_ble_eq_true rfl)
  have Old0_101 := Old0_95.wr W99 ge69
  have Vb1_102 := Vb1_96.other W99 ne68
  have Zp103 := Nat.le_trans Zp97 (Keep.of_wr W99).1
  have Np104 := Fr.snoc X99 Np98 ge69
  refine Go.on st99 ?_
  show Go p.tables e below s _ _ _ (T99.setTop (mkF m 94 #[.val (.int p1), .val (.ref b1), .unset, .unset, .unset, .unset] [(.ref b67)]))
  refine Go.on (fun t k => XS.dup X99.here hx rfl (hb hby at_94) rfl rfl k) ?_
  show Go p.tables e below s _ _ _ (T99.setTop (mkF m 95 #[.val (.int p1), .val (.ref b1), .unset, .unset, .unset, .unset] [(.ref b67), (.ref b67)]))
  refine Go.on (fun t k => XS.iconst X99.here hx rfl (hb hby at_95) k) ?_
  show Go p.tables e below s _ _ _ (T99.setTop (mkF m 96 #[.val (.int p1), .val (.ref b1), .unset, .unset, .unset, .unset] [(.int (5 : Int32)), (.ref b67), (.ref b67)]))
  refine Go.on (fun t k => XS.iconst X99.here hx rfl (hb hby at_96) k) ?_
  show Go p.tables e below s _ _ _ (T99.setTop (mkF m 97 #[.val (.int p1), .val (.ref b1), .unset, .unset, .unset, .unset] [(.int (0 : Int32)), (.int (5 : Int32)), (.ref b67), (.ref b67)]))
  obtain ⟨cl105, Ar105, q105, S105, M105, H105, G105⟩ := id Vb67_100
  have hin105 : ¬ ((5 : Int32) < 0 ∨ cl105.slots.size ≤ ((5 : Int32)).toNatClampNeg) := inb_of S105 ⟨by decide, by decide⟩
  obtain ⟨T105, h105, X105, e105, W105, st105⟩ := stZ X99 hx hZ e99 Ar105 (j := (5 : Int32)) hin105 (g := (mkF m 97 #[.val (.int p1), .val (.ref b1), .unset, .unset, .unset, .unset] [(.int (0 : Int32)), (.int (5 : Int32)), (.ref b67), (.ref b67)])) rfl rfl (hb hby at_97)
  have Vb67_106 : Arv Z h105 b67 k67 .boolean (10 : Int32) [(.int (0 : Int32)), (.int (1 : Int32)), (.int (1 : Int32)), (.int (1 : Int32)), (.int (1 : Int32)), (.int (0 : Int32)), (.int (0 : Int32)), (.int (0 : Int32)), (.int (0 : Int32)), (.int (0 : Int32))] (.int (0 : Int32)) := Arv.set Ar105 q105 S105 M105 H105 G105 (fits_nar_bool _) W105 5 rfl (Nat.le_of_ble_eq_true rfl)
  have Old0_107 := Old0_101.wr W105 ge69
  have Vb1_108 := Vb1_102.other W105 ne68
  have Zp109 := Nat.le_trans Zp103 (Keep.of_wr W105).1
  have Np110 := Fr.snoc X105 Np104 ge69
  refine Go.on st105 ?_
  show Go p.tables e below s _ _ _ (T105.setTop (mkF m 98 #[.val (.int p1), .val (.ref b1), .unset, .unset, .unset, .unset] [(.ref b67)]))
  refine Go.on (fun t k => XS.dup X105.here hx rfl (hb hby at_98) rfl rfl k) ?_
  show Go p.tables e below s _ _ _ (T105.setTop (mkF m 99 #[.val (.int p1), .val (.ref b1), .unset, .unset, .unset, .unset] [(.ref b67), (.ref b67)]))
  refine Go.on (fun t k => XS.bipush X105.here hx rfl (hb hby at_99) k) ?_
  show Go p.tables e below s _ _ _ (T105.setTop (mkF m 101 #[.val (.int p1), .val (.ref b1), .unset, .unset, .unset, .unset] [(.int (6 : Int32)), (.ref b67), (.ref b67)]))
  refine Go.on (fun t k => XS.iconst X105.here hx rfl (hb hby at_101) k) ?_
  show Go p.tables e below s _ _ _ (T105.setTop (mkF m 102 #[.val (.int p1), .val (.ref b1), .unset, .unset, .unset, .unset] [(.int (0 : Int32)), (.int (6 : Int32)), (.ref b67), (.ref b67)]))
  obtain ⟨cl111, Ar111, q111, S111, M111, H111, G111⟩ := id Vb67_106
  have hin111 : ¬ ((6 : Int32) < 0 ∨ cl111.slots.size ≤ ((6 : Int32)).toNatClampNeg) := inb_of S111 ⟨by decide, by decide⟩
  obtain ⟨T111, h111, X111, e111, W111, st111⟩ := stZ X105 hx hZ e105 Ar111 (j := (6 : Int32)) hin111 (g := (mkF m 102 #[.val (.int p1), .val (.ref b1), .unset, .unset, .unset, .unset] [(.int (0 : Int32)), (.int (6 : Int32)), (.ref b67), (.ref b67)])) rfl rfl (hb hby at_102)
  have Vb67_112 : Arv Z h111 b67 k67 .boolean (10 : Int32) [(.int (0 : Int32)), (.int (1 : Int32)), (.int (1 : Int32)), (.int (1 : Int32)), (.int (1 : Int32)), (.int (0 : Int32)), (.int (0 : Int32)), (.int (0 : Int32)), (.int (0 : Int32)), (.int (0 : Int32))] (.int (0 : Int32)) := Arv.set Ar111 q111 S111 M111 H111 G111 (fits_nar_bool _) W111 6 rfl (Nat.le_of_ble_eq_true rfl)
  have Old0_113 := Old0_107.wr W111 ge69
  have Vb1_114 := Vb1_108.other W111 ne68
  have Zp115 := Nat.le_trans Zp109 (Keep.of_wr W111).1
  have Np116 := Fr.snoc X111 Np110 ge69
  refine Go.on st111 ?_
  show Go p.tables e below s _ _ _ (T111.setTop (mkF m 103 #[.val (.int p1), .val (.ref b1), .unset, .unset, .unset, .unset] [(.ref b67)]))
  refine Go.on (fun t k => XS.dup X111.here hx rfl (hb hby at_103) rfl rfl k) ?_
  show Go p.tables e below s _ _ _ (T111.setTop (mkF m 104 #[.val (.int p1), .val (.ref b1), .unset, .unset, .unset, .unset] [(.ref b67), (.ref b67)]))
  refine Go.on (fun t k => XS.bipush X111.here hx rfl (hb hby at_104) k) ?_
  show Go p.tables e below s _ _ _ (T111.setTop (mkF m 106 #[.val (.int p1), .val (.ref b1), .unset, .unset, .unset, .unset] [(.int (7 : Int32)), (.ref b67), (.ref b67)]))
  refine Go.on (fun t k => XS.iconst X111.here hx rfl (hb hby at_106) k) ?_
  show Go p.tables e below s _ _ _ (T111.setTop (mkF m 107 #[.val (.int p1), .val (.ref b1), .unset, .unset, .unset, .unset] [(.int (0 : Int32)), (.int (7 : Int32)), (.ref b67), (.ref b67)]))
  obtain ⟨cl117, Ar117, q117, S117, M117, H117, G117⟩ := id Vb67_112
  have hin117 : ¬ ((7 : Int32) < 0 ∨ cl117.slots.size ≤ ((7 : Int32)).toNatClampNeg) := inb_of S117 ⟨by decide, by decide⟩
  obtain ⟨T117, h117, X117, e117, W117, st117⟩ := stZ X111 hx hZ e111 Ar117 (j := (7 : Int32)) hin117 (g := (mkF m 107 #[.val (.int p1), .val (.ref b1), .unset, .unset, .unset, .unset] [(.int (0 : Int32)), (.int (7 : Int32)), (.ref b67), (.ref b67)])) rfl rfl (hb hby at_107)
  have Vb67_118 : Arv Z h117 b67 k67 .boolean (10 : Int32) [(.int (0 : Int32)), (.int (1 : Int32)), (.int (1 : Int32)), (.int (1 : Int32)), (.int (1 : Int32)), (.int (0 : Int32)), (.int (0 : Int32)), (.int (0 : Int32)), (.int (0 : Int32)), (.int (0 : Int32))] (.int (0 : Int32)) := Arv.set Ar117 q117 S117 M117 H117 G117 (fits_nar_bool _) W117 7 rfl (Nat.le_of_ble_eq_true rfl)
  have Old0_119 := Old0_113.wr W117 ge69
  have Vb1_120 := Vb1_114.other W117 ne68
  have Zp121 := Nat.le_trans Zp115 (Keep.of_wr W117).1
  have Np122 := Fr.snoc X117 Np116 ge69
  refine Go.on st117 ?_
  show Go p.tables e below s _ _ _ (T117.setTop (mkF m 108 #[.val (.int p1), .val (.ref b1), .unset, .unset, .unset, .unset] [(.ref b67)]))
  refine Go.on (fun t k => XS.dup X117.here hx rfl (hb hby at_108) rfl rfl k) ?_
  show Go p.tables e below s _ _ _ (T117.setTop (mkF m 109 #[.val (.int p1), .val (.ref b1), .unset, .unset, .unset, .unset] [(.ref b67), (.ref b67)]))
  refine Go.on (fun t k => XS.bipush X117.here hx rfl (hb hby at_109) k) ?_
  show Go p.tables e below s _ _ _ (T117.setTop (mkF m 111 #[.val (.int p1), .val (.ref b1), .unset, .unset, .unset, .unset] [(.int (8 : Int32)), (.ref b67), (.ref b67)]))
  refine Go.on (fun t k => XS.iconst X117.here hx rfl (hb hby at_111) k) ?_
  show Go p.tables e below s _ _ _ (T117.setTop (mkF m 112 #[.val (.int p1), .val (.ref b1), .unset, .unset, .unset, .unset] [(.int (0 : Int32)), (.int (8 : Int32)), (.ref b67), (.ref b67)]))
  obtain ⟨cl123, Ar123, q123, S123, M123, H123, G123⟩ := id Vb67_118
  have hin123 : ¬ ((8 : Int32) < 0 ∨ cl123.slots.size ≤ ((8 : Int32)).toNatClampNeg) := inb_of S123 ⟨by decide, by decide⟩
  obtain ⟨T123, h123, X123, e123, W123, st123⟩ := stZ X117 hx hZ e117 Ar123 (j := (8 : Int32)) hin123 (g := (mkF m 112 #[.val (.int p1), .val (.ref b1), .unset, .unset, .unset, .unset] [(.int (0 : Int32)), (.int (8 : Int32)), (.ref b67), (.ref b67)])) rfl rfl (hb hby at_112)
  have Vb67_124 : Arv Z h123 b67 k67 .boolean (10 : Int32) [(.int (0 : Int32)), (.int (1 : Int32)), (.int (1 : Int32)), (.int (1 : Int32)), (.int (1 : Int32)), (.int (0 : Int32)), (.int (0 : Int32)), (.int (0 : Int32)), (.int (0 : Int32)), (.int (0 : Int32))] (.int (0 : Int32)) := Arv.set Ar123 q123 S123 M123 H123 G123 (fits_nar_bool _) W123 8 rfl (Nat.le_of_ble_eq_true rfl)
  have Old0_125 := Old0_119.wr W123 ge69
  have Vb1_126 := Vb1_120.other W123 ne68
  have Zp127 := Nat.le_trans Zp121 (Keep.of_wr W123).1
  have Np128 := Fr.snoc X123 Np122 ge69
  refine Go.on st123 ?_
  show Go p.tables e below s _ _ _ (T123.setTop (mkF m 113 #[.val (.int p1), .val (.ref b1), .unset, .unset, .unset, .unset] [(.ref b67)]))
  refine Go.on (fun t k => XS.dup X123.here hx rfl (hb hby at_113) rfl rfl k) ?_
  show Go p.tables e below s _ _ _ (T123.setTop (mkF m 114 #[.val (.int p1), .val (.ref b1), .unset, .unset, .unset, .unset] [(.ref b67), (.ref b67)]))
  refine Go.on (fun t k => XS.bipush X123.here hx rfl (hb hby at_114) k) ?_
  show Go p.tables e below s _ _ _ (T123.setTop (mkF m 116 #[.val (.int p1), .val (.ref b1), .unset, .unset, .unset, .unset] [(.int (9 : Int32)), (.ref b67), (.ref b67)]))
  refine Go.on (fun t k => XS.iconst X123.here hx rfl (hb hby at_116) k) ?_
  show Go p.tables e below s _ _ _ (T123.setTop (mkF m 117 #[.val (.int p1), .val (.ref b1), .unset, .unset, .unset, .unset] [(.int (0 : Int32)), (.int (9 : Int32)), (.ref b67), (.ref b67)]))
  obtain ⟨cl129, Ar129, q129, S129, M129, H129, G129⟩ := id Vb67_124
  have hin129 : ¬ ((9 : Int32) < 0 ∨ cl129.slots.size ≤ ((9 : Int32)).toNatClampNeg) := inb_of S129 ⟨by decide, by decide⟩
  obtain ⟨T129, h129, X129, e129, W129, st129⟩ := stZ X123 hx hZ e123 Ar129 (j := (9 : Int32)) hin129 (g := (mkF m 117 #[.val (.int p1), .val (.ref b1), .unset, .unset, .unset, .unset] [(.int (0 : Int32)), (.int (9 : Int32)), (.ref b67), (.ref b67)])) rfl rfl (hb hby at_117)
  have Vb67_130 : Arv Z h129 b67 k67 .boolean (10 : Int32) [(.int (0 : Int32)), (.int (1 : Int32)), (.int (1 : Int32)), (.int (1 : Int32)), (.int (1 : Int32)), (.int (0 : Int32)), (.int (0 : Int32)), (.int (0 : Int32)), (.int (0 : Int32)), (.int (0 : Int32))] (.int (0 : Int32)) := Arv.set Ar129 q129 S129 M129 H129 G129 (fits_nar_bool _) W129 9 rfl (Nat.le_of_ble_eq_true rfl)
  have Old0_131 := Old0_125.wr W129 ge69
  have Vb1_132 := Vb1_126.other W129 ne68
  have Zp133 := Nat.le_trans Zp127 (Keep.of_wr W129).1
  have Np134 := Fr.snoc X129 Np128 ge69
  refine Go.on st129 ?_
  show Go p.tables e below s _ _ _ (T129.setTop (mkF m 118 #[.val (.int p1), .val (.ref b1), .unset, .unset, .unset, .unset] [(.ref b67)]))
  refine Go.on (fun t k => XS.astoreN X129.here hx rfl (hb hby at_118) rfl rfl (l' := #[.val (.int p1), .val (.ref b1), .val (.ref b67), .unset, .unset, .unset]) rfl k) ?_
  show Go p.tables e below s _ _ _ (T129.setTop (mkF m 119 #[.val (.int p1), .val (.ref b1), .val (.ref b67), .unset, .unset, .unset] []))
  refine Go.on (fun t k => XS.iloadN X129.here hx rfl (hb hby at_119) rfl k) ?_
  show Go p.tables e below s _ _ _ (T129.setTop (mkF m 120 #[.val (.int p1), .val (.ref b1), .val (.ref b67), .unset, .unset, .unset] [(.int p1)]))
  refine Go.on (fun t k => X129.ldcInt hx hown (mvT hZ (hw _ (List.mem_of_getElem? (i := 25) rfl))) (g := (mkF m 120 #[.val (.int p1), .val (.ref b1), .val (.ref b67), .unset, .unset, .unset] [(.int p1)])) rfl (hb hby at_120) t k) ?_
  show Go p.tables e below s _ _ _ (T129.setTop (mkF m 122 #[.val (.int p1), .val (.ref b1), .val (.ref b67), .unset, .unset, .unset] [(.int (2147483647 : Int32)), (.int p1)]))
  refine Go.on (fun t k => XS.iand X129.here hx rfl (hb hby at_122) rfl k) ?_
  show Go p.tables e below s _ _ _ (T129.setTop (mkF m 123 #[.val (.int p1), .val (.ref b1), .val (.ref b67), .unset, .unset, .unset] [(.int (p1 &&& (2147483647 : Int32)))]))
  refine Go.on (fun t k => XS.bipush X129.here hx rfl (hb hby at_123) k) ?_
  show Go p.tables e below s _ _ _ (T129.setTop (mkF m 125 #[.val (.int p1), .val (.ref b1), .val (.ref b67), .unset, .unset, .unset] [(.int (10 : Int32)), (.int (p1 &&& (2147483647 : Int32)))]))
  refine Go.on (fun t k => Jvm.RoadKit.iremM X129 hx rfl (hb hby at_125) rfl (by decide) k) ?_
  show Go p.tables e below s _ _ _ (T129.setTop (mkF m 126 #[.val (.int p1), .val (.ref b1), .val (.ref b67), .unset, .unset, .unset] [(.int ((p1 &&& (2147483647 : Int32)) % (10 : Int32)))]))
  rcases own_mod10 p1 with hs135 | hs135 | hs135 | hs135 | hs135 | hs135 | hs135 | hs135 | hs135 | hs135
  · rw [hs135]
    refine Go.on (fun t k => XS.istoreN X129.here hx rfl (hb hby at_126) rfl (l' := #[.val (.int p1), .val (.ref b1), .val (.ref b67), .val (.int (0 : Int32)), .unset, .unset]) rfl k) ?_
    show Go p.tables e below s _ _ _ (T129.setTop (mkF m 127 #[.val (.int p1), .val (.ref b1), .val (.ref b67), .val (.int (0 : Int32)), .unset, .unset] []))
    refine Go.on (fun t k => XS.aloadN X129.here hx rfl (hb hby at_127) rfl rfl k) ?_
    show Go p.tables e below s _ _ _ (T129.setTop (mkF m 128 #[.val (.int p1), .val (.ref b1), .val (.ref b67), .val (.int (0 : Int32)), .unset, .unset] [(.ref b1)]))
    refine Go.on (fun t k => XS.iloadN X129.here hx rfl (hb hby at_128) rfl k) ?_
    show Go p.tables e below s _ _ _ (T129.setTop (mkF m 129 #[.val (.int p1), .val (.ref b1), .val (.ref b67), .val (.int (0 : Int32)), .unset, .unset] [(.int (0 : Int32)), (.ref b1)]))
    obtain ⟨cl136, Ar136, q136, S136, M136, H136, G136⟩ := id Vb1_132
    have hin136 : ¬ ((0 : Int32) < 0 ∨ cl136.slots.size ≤ ((0 : Int32)).toNatClampNeg) := inb_of S136 ⟨by decide, by decide⟩
    have hat136 : cl136.slots[((0 : Int32)).toNatClampNeg]? = some (.ref s0) := H136.at hin136 rfl
    refine Go.on (fun t k => X129.aaload hx (j := (0 : Int32)) (v := (.ref s0)) (by rw [e129]; exact Ar136.1) (State.isArrayOf_alike hZ.alike Ar136.2.1) rfl Ar136.2.2 hin136 hat136 (g := (mkF m 129 #[.val (.int p1), .val (.ref b1), .val (.ref b67), .val (.int (0 : Int32)), .unset, .unset] [(.int (0 : Int32)), (.ref b1)])) rfl rfl (hb hby at_129) t k) ?_
    show Go p.tables e below s _ _ _ (T129.setTop (mkF m 130 #[.val (.int p1), .val (.ref b1), .val (.ref b67), .val (.int (0 : Int32)), .unset, .unset] [(.ref s0)]))
    refine Go.on (fun t k => XS.astore X129.here hx rfl (hb hby at_130) rfl rfl (l' := #[.val (.int p1), .val (.ref b1), .val (.ref b67), .val (.int (0 : Int32)), .val (.ref s0), .unset]) rfl k) ?_
    show Go p.tables e below s _ _ _ (T129.setTop (mkF m 132 #[.val (.int p1), .val (.ref b1), .val (.ref b67), .val (.int (0 : Int32)), .val (.ref s0), .unset] []))
    refine Go.on (fun t k => XS.aload X129.here hx rfl (hb hby at_132) rfl rfl k) ?_
    show Go p.tables e below s _ _ _ (T129.setTop (mkF m 134 #[.val (.int p1), .val (.ref b1), .val (.ref b67), .val (.int (0 : Int32)), .val (.ref s0), .unset] [(.ref s0)]))
    have Ex_137 := (E_s0.ext Old0_131.2)
    obtain ⟨cq138, kq138, q138a, q138b, q138c⟩ := isOf hZ e129 Ex_137
    obtain ⟨_, _, ⟨T138, L138, k138, n138⟩, -, X138, ⟨Lc138, hQ138, l138, y138, z138⟩, st138⟩ := X129.virtualBack hx (y := (⟨"com/example/tidewell/tidewell/model/DataType", "isNumeric", "()Z"⟩ : MethodName)) (z := (⟨"com/example/tidewell/tidewell/model/DataType", "isNumeric", "()Z"⟩ : MethodName)) hown (mvT hZ (hw _ (List.mem_of_getElem? (i := 26) rfl))) (mvT hZ (hw _ (List.mem_of_getElem? (i := 27) rfl))) (notFace_of_selects (args := #[]) (mvT hZ (hw _ (List.mem_of_getElem? (i := 29) rfl)))) (mvT hZ (hw _ (List.mem_of_getElem? (i := 29) rfl))) (mvT hZ (hw _ (List.mem_of_getElem? (i := 28) rfl))) (by decide) (backOf (W := 0) (rm1 l Z a0 hw [] s0 s1 s2 s3 s4 h129 n0 Zp133 (Sta_INT32.ext Old0_131.2) (Sta_INT64.ext Old0_131.2) (Sta_FLOAT.ext Old0_131.2) (Sta_DOUBLE.ext Old0_131.2)) hZ (hw _ (List.mem_of_getElem? (i := 30) rfl)) (hw _ (List.mem_of_getElem? (i := 3) rfl)) (by decide) (by decide)) q138a q138c (g := (mkF m 134 #[.val (.int p1), .val (.ref b1), .val (.ref b67), .val (.int (0 : Int32)), .val (.ref s0), .unset] [(.ref s0)])) rfl (by rw [hml]; rfl) (Steps.refl _) (argsL := []) (rest := []) (lenOf pd__40__41_Z rfl) rfl (by show 2 * 0 + _ ≤ _; exact Nat.le_of_eq rfl) (hb hby at_134) (fun _ _ => ⟨rfl, e129, (by decide : ((0 + 1) + 1) + 0 ≤ _), (by decide : ((0 + 10) + 10) + 0 ≤ _)⟩)
    dsimp only [Pt.U, Pt.locs, Pt.cells, Pt.slots] at X138 l138 y138 z138 st138 hQ138
    rw [l138, y138, z138] at X138
    obtain ⟨rfl, Nq138, e138⟩ := hQ138
    have Np139 := Fr.app Np134 Nq138
    refine Go.via st138 ?_
    show Go p.tables e below s _ _ _ (T138.setTop (mkF m 137 #[.val (.int p1), .val (.ref b1), .val (.ref b67), .val (.int (0 : Int32)), .val (.ref s0), .unset] [(.int (own_b (s0 = s1 ∨ s0 = s2 ∨ s0 = s3 ∨ s0 = s4)))]))
    refine Go.on (fun t k => XS.istore X138.here hx rfl (hb hby at_137) rfl (l' := #[.val (.int p1), .val (.ref b1), .val (.ref b67), .val (.int (0 : Int32)), .val (.ref s0), .val (.int (own_b (s0 = s1 ∨ s0 = s2 ∨ s0 = s3 ∨ s0 = s4)))]) rfl k) ?_
    show Go p.tables e below s _ _ _ (T138.setTop (mkF m 139 #[.val (.int p1), .val (.ref b1), .val (.ref b67), .val (.int (0 : Int32)), .val (.ref s0), .val (.int (own_b (s0 = s1 ∨ s0 = s2 ∨ s0 = s3 ∨ s0 = s4)))] []))
    refine Go.on (fun t k => XS.iload X138.here hx rfl (hb hby at_139) rfl k) ?_
    show Go p.tables e below s _ _ _ (T138.setTop (mkF m 141 #[.val (.int p1), .val (.ref b1), .val (.ref b67), .val (.int (0 : Int32)), .val (.ref s0), .val (.int (own_b (s0 = s1 ∨ s0 = s2 ∨ s0 = s3 ∨ s0 = s4)))] [(.int (own_b (s0 = s1 ∨ s0 = s2 ∨ s0 = s3 ∨ s0 = s4)))]))
    refine Go.on (fun t k => XS.aloadN X138.here hx rfl (hb hby at_141) rfl rfl k) ?_
    show Go p.tables e below s _ _ _ (T138.setTop (mkF m 142 #[.val (.int p1), .val (.ref b1), .val (.ref b67), .val (.int (0 : Int32)), .val (.ref s0), .val (.int (own_b (s0 = s1 ∨ s0 = s2 ∨ s0 = s3 ∨ s0 = s4)))] [(.ref b67), (.int (own_b (s0 = s1 ∨ s0 = s2 ∨ s0 = s3 ∨ s0 = s4)))]))
    refine Go.on (fun t k => XS.iloadN X138.here hx rfl (hb hby at_142) rfl k) ?_
    show Go p.tables e below s _ _ _ (T138.setTop (mkF m 143 #[.val (.int p1), .val (.ref b1), .val (.ref b67), .val (.int (0 : Int32)), .val (.ref s0), .val (.int (own_b (s0 = s1 ∨ s0 = s2 ∨ s0 = s3 ∨ s0 = s4)))] [(.int (0 : Int32)), (.ref b67), (.int (own_b (s0 = s1 ∨ s0 = s2 ∨ s0 = s3 ∨ s0 = s4)))]))
    obtain ⟨cl140, Ar140, q140, S140, M140, H140, G140⟩ := id Vb67_130
    have hin140 : ¬ ((0 : Int32) < 0 ∨ cl140.slots.size ≤ ((0 : Int32)).toNatClampNeg) := inb_of S140 ⟨by decide, by decide⟩
    have hat140 : cl140.slots[((0 : Int32)).toNatClampNeg]? = some (.int (0 : Int32)) := H140.at hin140 rfl
    refine Go.on (fun t k => X138.baloadBooleans hx (j := (0 : Int32)) (v := (.int (0 : Int32))) (by rw [e138]; exact Ar140.1) (State.isArrayOf_alike hZ.alike Ar140.2.1) Ar140.2.2 hin140 hat140 (g := (mkF m 143 #[.val (.int p1), .val (.ref b1), .val (.ref b67), .val (.int (0 : Int32)), .val (.ref s0), .val (.int (own_b (s0 = s1 ∨ s0 = s2 ∨ s0 = s3 ∨ s0 = s4)))] [(.int (0 : Int32)), (.ref b67), (.int (own_b (s0 = s1 ∨ s0 = s2 ∨ s0 = s3 ∨ s0 = s4)))])) rfl rfl (hb hby at_143) t k) ?_
    show Go p.tables e below s _ _ _ (T138.setTop (mkF m 144 #[.val (.int p1), .val (.ref b1), .val (.ref b67), .val (.int (0 : Int32)), .val (.ref s0), .val (.int (own_b (s0 = s1 ∨ s0 = s2 ∨ s0 = s3 ∨ s0 = s4)))] [(.int (0 : Int32)), (.int (own_b (s0 = s1 ∨ s0 = s2 ∨ s0 = s3 ∨ s0 = s4)))]))
    refine Go.on (fun t k => XS.icmpYes X138.here hx rfl (pc0 := 144) (pc' := 149) rfl (hb hby at_144) rfl (teq (own_bf fun q => by rcases q with q | q | q | q <;> first | exact absurd q (O_s0.ne O_s1 (by decide)) | exact absurd q (O_s0.ne O_s2 (by decide)) | exact absurd q (O_s0.ne O_s3 (by decide)) | exact absurd q (O_s0.ne O_s4 (by decide)))).1 (by decide) (by decide) k) ?_
    show Go p.tables e below s _ _ _ (T138.setTop (mkF m 149 #[.val (.int p1), .val (.ref b1), .val (.ref b67), .val (.int (0 : Int32)), .val (.ref s0), .val (.int (own_b (s0 = s1 ∨ s0 = s2 ∨ s0 = s3 ∨ s0 = s4)))] []))
    refine Go.on (fun t k => XS.iload X138.here hx rfl (hb hby at_149) rfl k) ?_
    show Go p.tables e below s _ _ _ (T138.setTop (mkF m 151 #[.val (.int p1), .val (.ref b1), .val (.ref b67), .val (.int (0 : Int32)), .val (.ref s0), .val (.int (own_b (s0 = s1 ∨ s0 = s2 ∨ s0 = s3 ∨ s0 = s4)))] [(.int (own_b (s0 = s1 ∨ s0 = s2 ∨ s0 = s3 ∨ s0 = s4)))]))
    refine Go.on (fun t k => XS.ifYes X138.here hx rfl (pc0 := 151) (pc' := 164) rfl (hb hby at_151) rfl ((if0 _ _).trans (teq (own_bf fun q => by rcases q with q | q | q | q <;> first | exact absurd q (O_s0.ne O_s1 (by decide)) | exact absurd q (O_s0.ne O_s2 (by decide)) | exact absurd q (O_s0.ne O_s3 (by decide)) | exact absurd q (O_s0.ne O_s4 (by decide)))).1) (by decide) (by decide) k) ?_
    show Go p.tables e below s _ _ _ (T138.setTop (mkF m 164 #[.val (.int p1), .val (.ref b1), .val (.ref b67), .val (.int (0 : Int32)), .val (.ref s0), .val (.int (own_b (s0 = s1 ∨ s0 = s2 ∨ s0 = s3 ∨ s0 = s4)))] []))
    refine Go.on (fun t k => XS.iconst X138.here hx rfl (hb hby at_164) k) ?_
    show Go p.tables e below s _ _ _ (T138.setTop (mkF m 165 #[.val (.int p1), .val (.ref b1), .val (.ref b67), .val (.int (0 : Int32)), .val (.ref s0), .val (.int (own_b (s0 = s1 ∨ s0 = s2 ∨ s0 = s3 ∨ s0 = s4)))] [(.int (1 : Int32))]))
    refine Go.retN X138 hx hlk (t := .boolean) Bd.returns (by simp) (hb hby at_165) (by decide) (by decide) e138 ?_
    exact ⟨rfl, Np139⟩
  · rw [hs135]
    refine Go.on (fun t k => XS.istoreN X129.here hx rfl (hb hby at_126) rfl (l' := #[.val (.int p1), .val (.ref b1), .val (.ref b67), .val (.int (1 : Int32)), .unset, .unset]) rfl k) ?_
    show Go p.tables e below s _ _ _ (T129.setTop (mkF m 127 #[.val (.int p1), .val (.ref b1), .val (.ref b67), .val (.int (1 : Int32)), .unset, .unset] []))
    refine Go.on (fun t k => XS.aloadN X129.here hx rfl (hb hby at_127) rfl rfl k) ?_
    show Go p.tables e below s _ _ _ (T129.setTop (mkF m 128 #[.val (.int p1), .val (.ref b1), .val (.ref b67), .val (.int (1 : Int32)), .unset, .unset] [(.ref b1)]))
    refine Go.on (fun t k => XS.iloadN X129.here hx rfl (hb hby at_128) rfl k) ?_
    show Go p.tables e below s _ _ _ (T129.setTop (mkF m 129 #[.val (.int p1), .val (.ref b1), .val (.ref b67), .val (.int (1 : Int32)), .unset, .unset] [(.int (1 : Int32)), (.ref b1)]))
    obtain ⟨cl141, Ar141, q141, S141, M141, H141, G141⟩ := id Vb1_132
    have hin141 : ¬ ((1 : Int32) < 0 ∨ cl141.slots.size ≤ ((1 : Int32)).toNatClampNeg) := inb_of S141 ⟨by decide, by decide⟩
    have hat141 : cl141.slots[((1 : Int32)).toNatClampNeg]? = some (.ref s1) := H141.at hin141 rfl
    refine Go.on (fun t k => X129.aaload hx (j := (1 : Int32)) (v := (.ref s1)) (by rw [e129]; exact Ar141.1) (State.isArrayOf_alike hZ.alike Ar141.2.1) rfl Ar141.2.2 hin141 hat141 (g := (mkF m 129 #[.val (.int p1), .val (.ref b1), .val (.ref b67), .val (.int (1 : Int32)), .unset, .unset] [(.int (1 : Int32)), (.ref b1)])) rfl rfl (hb hby at_129) t k) ?_
    show Go p.tables e below s _ _ _ (T129.setTop (mkF m 130 #[.val (.int p1), .val (.ref b1), .val (.ref b67), .val (.int (1 : Int32)), .unset, .unset] [(.ref s1)]))
    refine Go.on (fun t k => XS.astore X129.here hx rfl (hb hby at_130) rfl rfl (l' := #[.val (.int p1), .val (.ref b1), .val (.ref b67), .val (.int (1 : Int32)), .val (.ref s1), .unset]) rfl k) ?_
    show Go p.tables e below s _ _ _ (T129.setTop (mkF m 132 #[.val (.int p1), .val (.ref b1), .val (.ref b67), .val (.int (1 : Int32)), .val (.ref s1), .unset] []))
    refine Go.on (fun t k => XS.aload X129.here hx rfl (hb hby at_132) rfl rfl k) ?_
    show Go p.tables e below s _ _ _ (T129.setTop (mkF m 134 #[.val (.int p1), .val (.ref b1), .val (.ref b67), .val (.int (1 : Int32)), .val (.ref s1), .unset] [(.ref s1)]))
    have Ex_142 := (E_s1.ext Old0_131.2)
    obtain ⟨cq143, kq143, q143a, q143b, q143c⟩ := isOf hZ e129 Ex_142
    obtain ⟨_, _, ⟨T143, L143, k143, n143⟩, -, X143, ⟨Lc143, hQ143, l143, y143, z143⟩, st143⟩ := X129.virtualBack hx (y := (⟨"com/example/tidewell/tidewell/model/DataType", "isNumeric", "()Z"⟩ : MethodName)) (z := (⟨"com/example/tidewell/tidewell/model/DataType", "isNumeric", "()Z"⟩ : MethodName)) hown (mvT hZ (hw _ (List.mem_of_getElem? (i := 26) rfl))) (mvT hZ (hw _ (List.mem_of_getElem? (i := 27) rfl))) (notFace_of_selects (args := #[]) (mvT hZ (hw _ (List.mem_of_getElem? (i := 29) rfl)))) (mvT hZ (hw _ (List.mem_of_getElem? (i := 29) rfl))) (mvT hZ (hw _ (List.mem_of_getElem? (i := 28) rfl))) (by decide) (backOf (W := 0) (rm1 l Z a0 hw [] s1 s1 s2 s3 s4 h129 n0 Zp133 (Sta_INT32.ext Old0_131.2) (Sta_INT64.ext Old0_131.2) (Sta_FLOAT.ext Old0_131.2) (Sta_DOUBLE.ext Old0_131.2)) hZ (hw _ (List.mem_of_getElem? (i := 30) rfl)) (hw _ (List.mem_of_getElem? (i := 3) rfl)) (by decide) (by decide)) q143a q143c (g := (mkF m 134 #[.val (.int p1), .val (.ref b1), .val (.ref b67), .val (.int (1 : Int32)), .val (.ref s1), .unset] [(.ref s1)])) rfl (by rw [hml]; rfl) (Steps.refl _) (argsL := []) (rest := []) (lenOf pd__40__41_Z rfl) rfl (by show 2 * 0 + _ ≤ _; exact Nat.le_of_eq rfl) (hb hby at_134) (fun _ _ => ⟨rfl, e129, (by decide : ((0 + 1) + 1) + 0 ≤ _), (by decide : ((0 + 10) + 10) + 0 ≤ _)⟩)
    dsimp only [Pt.U, Pt.locs, Pt.cells, Pt.slots] at X143 l143 y143 z143 st143 hQ143
    rw [l143, y143, z143] at X143
    obtain ⟨rfl, Nq143, e143⟩ := hQ143
    have Np144 := Fr.app Np134 Nq143
    refine Go.via st143 ?_
    show Go p.tables e below s _ _ _ (T143.setTop (mkF m 137 #[.val (.int p1), .val (.ref b1), .val (.ref b67), .val (.int (1 : Int32)), .val (.ref s1), .unset] [(.int (own_b (s1 = s1 ∨ s1 = s2 ∨ s1 = s3 ∨ s1 = s4)))]))
    refine Go.on (fun t k => XS.istore X143.here hx rfl (hb hby at_137) rfl (l' := #[.val (.int p1), .val (.ref b1), .val (.ref b67), .val (.int (1 : Int32)), .val (.ref s1), .val (.int (own_b (s1 = s1 ∨ s1 = s2 ∨ s1 = s3 ∨ s1 = s4)))]) rfl k) ?_
    show Go p.tables e below s _ _ _ (T143.setTop (mkF m 139 #[.val (.int p1), .val (.ref b1), .val (.ref b67), .val (.int (1 : Int32)), .val (.ref s1), .val (.int (own_b (s1 = s1 ∨ s1 = s2 ∨ s1 = s3 ∨ s1 = s4)))] []))
    refine Go.on (fun t k => XS.iload X143.here hx rfl (hb hby at_139) rfl k) ?_
    show Go p.tables e below s _ _ _ (T143.setTop (mkF m 141 #[.val (.int p1), .val (.ref b1), .val (.ref b67), .val (.int (1 : Int32)), .val (.ref s1), .val (.int (own_b (s1 = s1 ∨ s1 = s2 ∨ s1 = s3 ∨ s1 = s4)))] [(.int (own_b (s1 = s1 ∨ s1 = s2 ∨ s1 = s3 ∨ s1 = s4)))]))
    refine Go.on (fun t k => XS.aloadN X143.here hx rfl (hb hby at_141) rfl rfl k) ?_
    show Go p.tables e below s _ _ _ (T143.setTop (mkF m 142 #[.val (.int p1), .val (.ref b1), .val (.ref b67), .val (.int (1 : Int32)), .val (.ref s1), .val (.int (own_b (s1 = s1 ∨ s1 = s2 ∨ s1 = s3 ∨ s1 = s4)))] [(.ref b67), (.int (own_b (s1 = s1 ∨ s1 = s2 ∨ s1 = s3 ∨ s1 = s4)))]))
    refine Go.on (fun t k => XS.iloadN X143.here hx rfl (hb hby at_142) rfl k) ?_
    show Go p.tables e below s _ _ _ (T143.setTop (mkF m 143 #[.val (.int p1), .val (.ref b1), .val (.ref b67), .val (.int (1 : Int32)), .val (.ref s1), .val (.int (own_b (s1 = s1 ∨ s1 = s2 ∨ s1 = s3 ∨ s1 = s4)))] [(.int (1 : Int32)), (.ref b67), (.int (own_b (s1 = s1 ∨ s1 = s2 ∨ s1 = s3 ∨ s1 = s4)))]))
    obtain ⟨cl145, Ar145, q145, S145, M145, H145, G145⟩ := id Vb67_130
    have hin145 : ¬ ((1 : Int32) < 0 ∨ cl145.slots.size ≤ ((1 : Int32)).toNatClampNeg) := inb_of S145 ⟨by decide, by decide⟩
    have hat145 : cl145.slots[((1 : Int32)).toNatClampNeg]? = some (.int (1 : Int32)) := H145.at hin145 rfl
    refine Go.on (fun t k => X143.baloadBooleans hx (j := (1 : Int32)) (v := (.int (1 : Int32))) (by rw [e143]; exact Ar145.1) (State.isArrayOf_alike hZ.alike Ar145.2.1) Ar145.2.2 hin145 hat145 (g := (mkF m 143 #[.val (.int p1), .val (.ref b1), .val (.ref b67), .val (.int (1 : Int32)), .val (.ref s1), .val (.int (own_b (s1 = s1 ∨ s1 = s2 ∨ s1 = s3 ∨ s1 = s4)))] [(.int (1 : Int32)), (.ref b67), (.int (own_b (s1 = s1 ∨ s1 = s2 ∨ s1 = s3 ∨ s1 = s4)))])) rfl rfl (hb hby at_143) t k) ?_
    show Go p.tables e below s _ _ _ (T143.setTop (mkF m 144 #[.val (.int p1), .val (.ref b1), .val (.ref b67), .val (.int (1 : Int32)), .val (.ref s1), .val (.int (own_b (s1 = s1 ∨ s1 = s2 ∨ s1 = s3 ∨ s1 = s4)))] [(.int (1 : Int32)), (.int (own_b (s1 = s1 ∨ s1 = s2 ∨ s1 = s3 ∨ s1 = s4)))]))
    refine Go.on (fun t k => XS.icmpYes X143.here hx rfl (pc0 := 144) (pc' := 149) rfl (hb hby at_144) rfl (teq (own_bt (Or.inl rfl))).1 (by decide) (by decide) k) ?_
    show Go p.tables e below s _ _ _ (T143.setTop (mkF m 149 #[.val (.int p1), .val (.ref b1), .val (.ref b67), .val (.int (1 : Int32)), .val (.ref s1), .val (.int (own_b (s1 = s1 ∨ s1 = s2 ∨ s1 = s3 ∨ s1 = s4)))] []))
    refine Go.on (fun t k => XS.iload X143.here hx rfl (hb hby at_149) rfl k) ?_
    show Go p.tables e below s _ _ _ (T143.setTop (mkF m 151 #[.val (.int p1), .val (.ref b1), .val (.ref b67), .val (.int (1 : Int32)), .val (.ref s1), .val (.int (own_b (s1 = s1 ∨ s1 = s2 ∨ s1 = s3 ∨ s1 = s4)))] [(.int (own_b (s1 = s1 ∨ s1 = s2 ∨ s1 = s3 ∨ s1 = s4)))]))
    refine Go.on (fun t k => XS.ifNo X143.here hx rfl (hb hby at_151) rfl ((if0 _ _).trans (feq (fun q => own_b0 q (Or.inl rfl))).1) k) ?_
    show Go p.tables e below s _ _ _ (T143.setTop (mkF m 154 #[.val (.int p1), .val (.ref b1), .val (.ref b67), .val (.int (1 : Int32)), .val (.ref s1), .val (.int (own_b (s1 = s1 ∨ s1 = s2 ∨ s1 = s3 ∨ s1 = s4)))] []))
    refine Go.on (fun t k => XS.aload X143.here hx rfl (hb hby at_154) rfl rfl k) ?_
    show Go p.tables e below s _ _ _ (T143.setTop (mkF m 156 #[.val (.int p1), .val (.ref b1), .val (.ref b67), .val (.int (1 : Int32)), .val (.ref s1), .val (.int (own_b (s1 = s1 ∨ s1 = s2 ∨ s1 = s3 ∨ s1 = s4)))] [(.ref s1)]))
    obtain ⟨cq146, kq146, q146a, q146b, q146c⟩ := isOf hZ e143 Ex_142
    obtain ⟨_, _, ⟨T146, L146, k146, n146⟩, -, X146, ⟨Lc146, hQ146, l146, y146, z146⟩, st146⟩ := X143.virtualBack hx (y := (⟨"com/example/tidewell/tidewell/model/DataType", "isCharacter", "()Z"⟩ : MethodName)) (z := (⟨"com/example/tidewell/tidewell/model/DataType", "isCharacter", "()Z"⟩ : MethodName)) hown (mvT hZ (hw _ (List.mem_of_getElem? (i := 35) rfl))) (mvT hZ (hw _ (List.mem_of_getElem? (i := 36) rfl))) (notFace_of_selects (args := #[]) (mvT hZ (hw _ (List.mem_of_getElem? (i := 38) rfl)))) (mvT hZ (hw _ (List.mem_of_getElem? (i := 38) rfl))) (mvT hZ (hw _ (List.mem_of_getElem? (i := 37) rfl))) (by decide) (backOf (W := 0) (rm2 l Z a0 hw [] s1 s5 s6 h129 n0 Zp133 (Sta_TEXT.ext Old0_131.2) (Sta_STRING.ext Old0_131.2)) hZ (hw _ (List.mem_of_getElem? (i := 39) rfl)) (hw _ (List.mem_of_getElem? (i := 3) rfl)) (by decide) (by decide)) q146a q146c (g := (mkF m 156 #[.val (.int p1), .val (.ref b1), .val (.ref b67), .val (.int (1 : Int32)), .val (.ref s1), .val (.int (own_b (s1 = s1 ∨ s1 = s2 ∨ s1 = s3 ∨ s1 = s4)))] [(.ref s1)])) rfl (by rw [hml]; rfl) (Steps.refl _) (argsL := []) (rest := []) (lenOf pd__40__41_Z rfl) rfl (by show 2 * 0 + _ ≤ _; exact Nat.le_of_eq rfl) (hb hby at_156) (fun _ _ => ⟨rfl, e143, (by decide : (((0 + 1) + 1) + 0) + 0 ≤ _), (by decide : (((0 + 10) + 10) + 0) + 0 ≤ _)⟩)
    dsimp only [Pt.U, Pt.locs, Pt.cells, Pt.slots] at X146 l146 y146 z146 st146 hQ146
    rw [l146, y146, z146] at X146
    obtain ⟨rfl, Nq146, e146⟩ := hQ146
    have Np147 := Fr.app Np144 Nq146
    refine Go.via st146 ?_
    show Go p.tables e below s _ _ _ (T146.setTop (mkF m 159 #[.val (.int p1), .val (.ref b1), .val (.ref b67), .val (.int (1 : Int32)), .val (.ref s1), .val (.int (own_b (s1 = s1 ∨ s1 = s2 ∨ s1 = s3 ∨ s1 = s4)))] [(.int (own_b (s1 = s5 ∨ s1 = s6)))]))
    refine Go.on (fun t k => XS.ifYes X146.here hx rfl (pc0 := 159) (pc' := 164) rfl (hb hby at_159) rfl ((if0 _ _).trans (teq (own_bf fun q => by rcases q with q | q <;> first | exact absurd q (O_s1.ne O_s5 (by decide)) | exact absurd q (O_s1.ne O_s6 (by decide)))).1) (by decide) (by decide) k) ?_
    show Go p.tables e below s _ _ _ (T146.setTop (mkF m 164 #[.val (.int p1), .val (.ref b1), .val (.ref b67), .val (.int (1 : Int32)), .val (.ref s1), .val (.int (own_b (s1 = s1 ∨ s1 = s2 ∨ s1 = s3 ∨ s1 = s4)))] []))
    refine Go.on (fun t k => XS.iconst X146.here hx rfl (hb hby at_164) k) ?_
    show Go p.tables e below s _ _ _ (T146.setTop (mkF m 165 #[.val (.int p1), .val (.ref b1), .val (.ref b67), .val (.int (1 : Int32)), .val (.ref s1), .val (.int (own_b (s1 = s1 ∨ s1 = s2 ∨ s1 = s3 ∨ s1 = s4)))] [(.int (1 : Int32))]))
    refine Go.retN X146 hx hlk (t := .boolean) Bd.returns (by simp) (hb hby at_165) (by decide) (by decide) e146 ?_
    exact ⟨rfl, Np147⟩
  · rw [hs135]
    refine Go.on (fun t k => XS.istoreN X129.here hx rfl (hb hby at_126) rfl (l' := #[.val (.int p1), .val (.ref b1), .val (.ref b67), .val (.int (2 : Int32)), .unset, .unset]) rfl k) ?_
    show Go p.tables e below s _ _ _ (T129.setTop (mkF m 127 #[.val (.int p1), .val (.ref b1), .val (.ref b67), .val (.int (2 : Int32)), .unset, .unset] []))
    refine Go.on (fun t k => XS.aloadN X129.here hx rfl (hb hby at_127) rfl rfl k) ?_
    show Go p.tables e below s _ _ _ (T129.setTop (mkF m 128 #[.val (.int p1), .val (.ref b1), .val (.ref b67), .val (.int (2 : Int32)), .unset, .unset] [(.ref b1)]))
    refine Go.on (fun t k => XS.iloadN X129.here hx rfl (hb hby at_128) rfl k) ?_
    show Go p.tables e below s _ _ _ (T129.setTop (mkF m 129 #[.val (.int p1), .val (.ref b1), .val (.ref b67), .val (.int (2 : Int32)), .unset, .unset] [(.int (2 : Int32)), (.ref b1)]))
    obtain ⟨cl148, Ar148, q148, S148, M148, H148, G148⟩ := id Vb1_132
    have hin148 : ¬ ((2 : Int32) < 0 ∨ cl148.slots.size ≤ ((2 : Int32)).toNatClampNeg) := inb_of S148 ⟨by decide, by decide⟩
    have hat148 : cl148.slots[((2 : Int32)).toNatClampNeg]? = some (.ref s2) := H148.at hin148 rfl
    refine Go.on (fun t k => X129.aaload hx (j := (2 : Int32)) (v := (.ref s2)) (by rw [e129]; exact Ar148.1) (State.isArrayOf_alike hZ.alike Ar148.2.1) rfl Ar148.2.2 hin148 hat148 (g := (mkF m 129 #[.val (.int p1), .val (.ref b1), .val (.ref b67), .val (.int (2 : Int32)), .unset, .unset] [(.int (2 : Int32)), (.ref b1)])) rfl rfl (hb hby at_129) t k) ?_
    show Go p.tables e below s _ _ _ (T129.setTop (mkF m 130 #[.val (.int p1), .val (.ref b1), .val (.ref b67), .val (.int (2 : Int32)), .unset, .unset] [(.ref s2)]))
    refine Go.on (fun t k => XS.astore X129.here hx rfl (hb hby at_130) rfl rfl (l' := #[.val (.int p1), .val (.ref b1), .val (.ref b67), .val (.int (2 : Int32)), .val (.ref s2), .unset]) rfl k) ?_
    show Go p.tables e below s _ _ _ (T129.setTop (mkF m 132 #[.val (.int p1), .val (.ref b1), .val (.ref b67), .val (.int (2 : Int32)), .val (.ref s2), .unset] []))
    refine Go.on (fun t k => XS.aload X129.here hx rfl (hb hby at_132) rfl rfl k) ?_
    show Go p.tables e below s _ _ _ (T129.setTop (mkF m 134 #[.val (.int p1), .val (.ref b1), .val (.ref b67), .val (.int (2 : Int32)), .val (.ref s2), .unset] [(.ref s2)]))
    have Ex_149 := (E_s2.ext Old0_131.2)
    obtain ⟨cq150, kq150, q150a, q150b, q150c⟩ := isOf hZ e129 Ex_149
    obtain ⟨_, _, ⟨T150, L150, k150, n150⟩, -, X150, ⟨Lc150, hQ150, l150, y150, z150⟩, st150⟩ := X129.virtualBack hx (y := (⟨"com/example/tidewell/tidewell/model/DataType", "isNumeric", "()Z"⟩ : MethodName)) (z := (⟨"com/example/tidewell/tidewell/model/DataType", "isNumeric", "()Z"⟩ : MethodName)) hown (mvT hZ (hw _ (List.mem_of_getElem? (i := 26) rfl))) (mvT hZ (hw _ (List.mem_of_getElem? (i := 27) rfl))) (notFace_of_selects (args := #[]) (mvT hZ (hw _ (List.mem_of_getElem? (i := 29) rfl)))) (mvT hZ (hw _ (List.mem_of_getElem? (i := 29) rfl))) (mvT hZ (hw _ (List.mem_of_getElem? (i := 28) rfl))) (by decide) (backOf (W := 0) (rm1 l Z a0 hw [] s2 s1 s2 s3 s4 h129 n0 Zp133 (Sta_INT32.ext Old0_131.2) (Sta_INT64.ext Old0_131.2) (Sta_FLOAT.ext Old0_131.2) (Sta_DOUBLE.ext Old0_131.2)) hZ (hw _ (List.mem_of_getElem? (i := 30) rfl)) (hw _ (List.mem_of_getElem? (i := 3) rfl)) (by decide) (by decide)) q150a q150c (g := (mkF m 134 #[.val (.int p1), .val (.ref b1), .val (.ref b67), .val (.int (2 : Int32)), .val (.ref s2), .unset] [(.ref s2)])) rfl (by rw [hml]; rfl) (Steps.refl _) (argsL := []) (rest := []) (lenOf pd__40__41_Z rfl) rfl (by show 2 * 0 + _ ≤ _; exact Nat.le_of_eq rfl) (hb hby at_134) (fun _ _ => ⟨rfl, e129, (by decide : ((0 + 1) + 1) + 0 ≤ _), (by decide : ((0 + 10) + 10) + 0 ≤ _)⟩)
    dsimp only [Pt.U, Pt.locs, Pt.cells, Pt.slots] at X150 l150 y150 z150 st150 hQ150
    rw [l150, y150, z150] at X150
    obtain ⟨rfl, Nq150, e150⟩ := hQ150
    have Np151 := Fr.app Np134 Nq150
    refine Go.via st150 ?_
    show Go p.tables e below s _ _ _ (T150.setTop (mkF m 137 #[.val (.int p1), .val (.ref b1), .val (.ref b67), .val (.int (2 : Int32)), .val (.ref s2), .unset] [(.int (own_b (s2 = s1 ∨ s2 = s2 ∨ s2 = s3 ∨ s2 = s4)))]))
    refine Go.on (fun t k => XS.istore X150.here hx rfl (hb hby at_137) rfl (l' := #[.val (.int p1), .val (.ref b1), .val (.ref b67), .val (.int (2 : Int32)), .val (.ref s2), .val (.int (own_b (s2 = s1 ∨ s2 = s2 ∨ s2 = s3 ∨ s2 = s4)))]) rfl k) ?_
    show Go p.tables e below s _ _ _ (T150.setTop (mkF m 139 #[.val (.int p1), .val (.ref b1), .val (.ref b67), .val (.int (2 : Int32)), .val (.ref s2), .val (.int (own_b (s2 = s1 ∨ s2 = s2 ∨ s2 = s3 ∨ s2 = s4)))] []))
    refine Go.on (fun t k => XS.iload X150.here hx rfl (hb hby at_139) rfl k) ?_
    show Go p.tables e below s _ _ _ (T150.setTop (mkF m 141 #[.val (.int p1), .val (.ref b1), .val (.ref b67), .val (.int (2 : Int32)), .val (.ref s2), .val (.int (own_b (s2 = s1 ∨ s2 = s2 ∨ s2 = s3 ∨ s2 = s4)))] [(.int (own_b (s2 = s1 ∨ s2 = s2 ∨ s2 = s3 ∨ s2 = s4)))]))
    refine Go.on (fun t k => XS.aloadN X150.here hx rfl (hb hby at_141) rfl rfl k) ?_
    show Go p.tables e below s _ _ _ (T150.setTop (mkF m 142 #[.val (.int p1), .val (.ref b1), .val (.ref b67), .val (.int (2 : Int32)), .val (.ref s2), .val (.int (own_b (s2 = s1 ∨ s2 = s2 ∨ s2 = s3 ∨ s2 = s4)))] [(.ref b67), (.int (own_b (s2 = s1 ∨ s2 = s2 ∨ s2 = s3 ∨ s2 = s4)))]))
    refine Go.on (fun t k => XS.iloadN X150.here hx rfl (hb hby at_142) rfl k) ?_
    show Go p.tables e below s _ _ _ (T150.setTop (mkF m 143 #[.val (.int p1), .val (.ref b1), .val (.ref b67), .val (.int (2 : Int32)), .val (.ref s2), .val (.int (own_b (s2 = s1 ∨ s2 = s2 ∨ s2 = s3 ∨ s2 = s4)))] [(.int (2 : Int32)), (.ref b67), (.int (own_b (s2 = s1 ∨ s2 = s2 ∨ s2 = s3 ∨ s2 = s4)))]))
    obtain ⟨cl152, Ar152, q152, S152, M152, H152, G152⟩ := id Vb67_130
    have hin152 : ¬ ((2 : Int32) < 0 ∨ cl152.slots.size ≤ ((2 : Int32)).toNatClampNeg) := inb_of S152 ⟨by decide, by decide⟩
    have hat152 : cl152.slots[((2 : Int32)).toNatClampNeg]? = some (.int (1 : Int32)) := H152.at hin152 rfl
    refine Go.on (fun t k => X150.baloadBooleans hx (j := (2 : Int32)) (v := (.int (1 : Int32))) (by rw [e150]; exact Ar152.1) (State.isArrayOf_alike hZ.alike Ar152.2.1) Ar152.2.2 hin152 hat152 (g := (mkF m 143 #[.val (.int p1), .val (.ref b1), .val (.ref b67), .val (.int (2 : Int32)), .val (.ref s2), .val (.int (own_b (s2 = s1 ∨ s2 = s2 ∨ s2 = s3 ∨ s2 = s4)))] [(.int (2 : Int32)), (.ref b67), (.int (own_b (s2 = s1 ∨ s2 = s2 ∨ s2 = s3 ∨ s2 = s4)))])) rfl rfl (hb hby at_143) t k) ?_
    show Go p.tables e below s _ _ _ (T150.setTop (mkF m 144 #[.val (.int p1), .val (.ref b1), .val (.ref b67), .val (.int (2 : Int32)), .val (.ref s2), .val (.int (own_b (s2 = s1 ∨ s2 = s2 ∨ s2 = s3 ∨ s2 = s4)))] [(.int (1 : Int32)), (.int (own_b (s2 = s1 ∨ s2 = s2 ∨ s2 = s3 ∨ s2 = s4)))]))
    refine Go.on (fun t k => XS.icmpYes X150.here hx rfl (pc0 := 144) (pc' := 149) rfl (hb hby at_144) rfl (teq (own_bt (Or.inr (Or.inl rfl)))).1 (by decide) (by decide) k) ?_
    show Go p.tables e below s _ _ _ (T150.setTop (mkF m 149 #[.val (.int p1), .val (.ref b1), .val (.ref b67), .val (.int (2 : Int32)), .val (.ref s2), .val (.int (own_b (s2 = s1 ∨ s2 = s2 ∨ s2 = s3 ∨ s2 = s4)))] []))
    refine Go.on (fun t k => XS.iload X150.here hx rfl (hb hby at_149) rfl k) ?_
    show Go p.tables e below s _ _ _ (T150.setTop (mkF m 151 #[.val (.int p1), .val (.ref b1), .val (.ref b67), .val (.int (2 : Int32)), .val (.ref s2), .val (.int (own_b (s2 = s1 ∨ s2 = s2 ∨ s2 = s3 ∨ s2 = s4)))] [(.int (own_b (s2 = s1 ∨ s2 = s2 ∨ s2 = s3 ∨ s2 = s4)))]))
    refine Go.on (fun t k => XS.ifNo X150.here hx rfl (hb hby at_151) rfl ((if0 _ _).trans (feq (fun q => own_b0 q (Or.inr (Or.inl rfl)))).1) k) ?_
    show Go p.tables e below s _ _ _ (T150.setTop (mkF m 154 #[.val (.int p1), .val (.ref b1), .val (.ref b67), .val (.int (2 : Int32)), .val (.ref s2), .val (.int (own_b (s2 = s1 ∨ s2 = s2 ∨ s2 = s3 ∨ s2 = s4)))] []))
    refine Go.on (fun t k => XS.aload X150.here hx rfl (hb hby at_154) rfl rfl k) ?_
    show Go p.tables e below s _ _ _ (T150.setTop (mkF m 156 #[.val (.int p1), .val (.ref b1), .val (.ref b67), .val (.int (2 : Int32)), .val (.ref s2), .val (.int (own_b (s2 = s1 ∨ s2 = s2 ∨ s2 = s3 ∨ s2 = s4)))] [(.ref s2)]))
    obtain ⟨cq153, kq153, q153a, q153b, q153c⟩ := isOf hZ e150 Ex_149
    obtain ⟨_, _, ⟨T153, L153, k153, n153⟩, -, X153, ⟨Lc153, hQ153, l153, y153, z153⟩, st153⟩ := X150.virtualBack hx (y := (⟨"com/example/tidewell/tidewell/model/DataType", "isCharacter", "()Z"⟩ : MethodName)) (z := (⟨"com/example/tidewell/tidewell/model/DataType", "isCharacter", "()Z"⟩ : MethodName)) hown (mvT hZ (hw _ (List.mem_of_getElem? (i := 35) rfl))) (mvT hZ (hw _ (List.mem_of_getElem? (i := 36) rfl))) (notFace_of_selects (args := #[]) (mvT hZ (hw _ (List.mem_of_getElem? (i := 38) rfl)))) (mvT hZ (hw _ (List.mem_of_getElem? (i := 38) rfl))) (mvT hZ (hw _ (List.mem_of_getElem? (i := 37) rfl))) (by decide) (backOf (W := 0) (rm2 l Z a0 hw [] s2 s5 s6 h129 n0 Zp133 (Sta_TEXT.ext Old0_131.2) (Sta_STRING.ext Old0_131.2)) hZ (hw _ (List.mem_of_getElem? (i := 39) rfl)) (hw _ (List.mem_of_getElem? (i := 3) rfl)) (by decide) (by decide)) q153a q153c (g := (mkF m 156 #[.val (.int p1), .val (.ref b1), .val (.ref b67), .val (.int (2 : Int32)), .val (.ref s2), .val (.int (own_b (s2 = s1 ∨ s2 = s2 ∨ s2 = s3 ∨ s2 = s4)))] [(.ref s2)])) rfl (by rw [hml]; rfl) (Steps.refl _) (argsL := []) (rest := []) (lenOf pd__40__41_Z rfl) rfl (by show 2 * 0 + _ ≤ _; exact Nat.le_of_eq rfl) (hb hby at_156) (fun _ _ => ⟨rfl, e150, (by decide : (((0 + 1) + 1) + 0) + 0 ≤ _), (by decide : (((0 + 10) + 10) + 0) + 0 ≤ _)⟩)
    dsimp only [Pt.U, Pt.locs, Pt.cells, Pt.slots] at X153 l153 y153 z153 st153 hQ153
    rw [l153, y153, z153] at X153
    obtain ⟨rfl, Nq153, e153⟩ := hQ153
    have Np154 := Fr.app Np151 Nq153
    refine Go.via st153 ?_
    show Go p.tables e below s _ _ _ (T153.setTop (mkF m 159 #[.val (.int p1), .val (.ref b1), .val (.ref b67), .val (.int (2 : Int32)), .val (.ref s2), .val (.int (own_b (s2 = s1 ∨ s2 = s2 ∨ s2 = s3 ∨ s2 = s4)))] [(.int (own_b (s2 = s5 ∨ s2 = s6)))]))
    refine Go.on (fun t k => XS.ifYes X153.here hx rfl (pc0 := 159) (pc' := 164) rfl (hb hby at_159) rfl ((if0 _ _).trans (teq (own_bf fun q => by rcases q with q | q <;> first | exact absurd q (O_s2.ne O_s5 (by decide)) | exact absurd q (O_s2.ne O_s6 (by decide)))).1) (by decide) (by decide) k) ?_
    show Go p.tables e below s _ _ _ (T153.setTop (mkF m 164 #[.val (.int p1), .val (.ref b1), .val (.ref b67), .val (.int (2 : Int32)), .val (.ref s2), .val (.int (own_b (s2 = s1 ∨ s2 = s2 ∨ s2 = s3 ∨ s2 = s4)))] []))
    refine Go.on (fun t k => XS.iconst X153.here hx rfl (hb hby at_164) k) ?_
    show Go p.tables e below s _ _ _ (T153.setTop (mkF m 165 #[.val (.int p1), .val (.ref b1), .val (.ref b67), .val (.int (2 : Int32)), .val (.ref s2), .val (.int (own_b (s2 = s1 ∨ s2 = s2 ∨ s2 = s3 ∨ s2 = s4)))] [(.int (1 : Int32))]))
    refine Go.retN X153 hx hlk (t := .boolean) Bd.returns (by simp) (hb hby at_165) (by decide) (by decide) e153 ?_
    exact ⟨rfl, Np154⟩
  · rw [hs135]
    refine Go.on (fun t k => XS.istoreN X129.here hx rfl (hb hby at_126) rfl (l' := #[.val (.int p1), .val (.ref b1), .val (.ref b67), .val (.int (3 : Int32)), .unset, .unset]) rfl k) ?_
    show Go p.tables e below s _ _ _ (T129.setTop (mkF m 127 #[.val (.int p1), .val (.ref b1), .val (.ref b67), .val (.int (3 : Int32)), .unset, .unset] []))
    refine Go.on (fun t k => XS.aloadN X129.here hx rfl (hb hby at_127) rfl rfl k) ?_
    show Go p.tables e below s _ _ _ (T129.setTop (mkF m 128 #[.val (.int p1), .val (.ref b1), .val (.ref b67), .val (.int (3 : Int32)), .unset, .unset] [(.ref b1)]))
    refine Go.on (fun t k => XS.iloadN X129.here hx rfl (hb hby at_128) rfl k) ?_
    show Go p.tables e below s _ _ _ (T129.setTop (mkF m 129 #[.val (.int p1), .val (.ref b1), .val (.ref b67), .val (.int (3 : Int32)), .unset, .unset] [(.int (3 : Int32)), (.ref b1)]))
    obtain ⟨cl155, Ar155, q155, S155, M155, H155, G155⟩ := id Vb1_132
    have hin155 : ¬ ((3 : Int32) < 0 ∨ cl155.slots.size ≤ ((3 : Int32)).toNatClampNeg) := inb_of S155 ⟨by decide, by decide⟩
    have hat155 : cl155.slots[((3 : Int32)).toNatClampNeg]? = some (.ref s3) := H155.at hin155 rfl
    refine Go.on (fun t k => X129.aaload hx (j := (3 : Int32)) (v := (.ref s3)) (by rw [e129]; exact Ar155.1) (State.isArrayOf_alike hZ.alike Ar155.2.1) rfl Ar155.2.2 hin155 hat155 (g := (mkF m 129 #[.val (.int p1), .val (.ref b1), .val (.ref b67), .val (.int (3 : Int32)), .unset, .unset] [(.int (3 : Int32)), (.ref b1)])) rfl rfl (hb hby at_129) t k) ?_
    show Go p.tables e below s _ _ _ (T129.setTop (mkF m 130 #[.val (.int p1), .val (.ref b1), .val (.ref b67), .val (.int (3 : Int32)), .unset, .unset] [(.ref s3)]))
    refine Go.on (fun t k => XS.astore X129.here hx rfl (hb hby at_130) rfl rfl (l' := #[.val (.int p1), .val (.ref b1), .val (.ref b67), .val (.int (3 : Int32)), .val (.ref s3), .unset]) rfl k) ?_
    show Go p.tables e below s _ _ _ (T129.setTop (mkF m 132 #[.val (.int p1), .val (.ref b1), .val (.ref b67), .val (.int (3 : Int32)), .val (.ref s3), .unset] []))
    refine Go.on (fun t k => XS.aload X129.here hx rfl (hb hby at_132) rfl rfl k) ?_
    show Go p.tables e below s _ _ _ (T129.setTop (mkF m 134 #[.val (.int p1), .val (.ref b1), .val (.ref b67), .val (.int (3 : Int32)), .val (.ref s3), .unset] [(.ref s3)]))
    have Ex_156 := (E_s3.ext Old0_131.2)
    obtain ⟨cq157, kq157, q157a, q157b, q157c⟩ := isOf hZ e129 Ex_156
    obtain ⟨_, _, ⟨T157, L157, k157, n157⟩, -, X157, ⟨Lc157, hQ157, l157, y157, z157⟩, st157⟩ := X129.virtualBack hx (y := (⟨"com/example/tidewell/tidewell/model/DataType", "isNumeric", "()Z"⟩ : MethodName)) (z := (⟨"com/example/tidewell/tidewell/model/DataType", "isNumeric", "()Z"⟩ : MethodName)) hown (mvT hZ (hw _ (List.mem_of_getElem? (i := 26) rfl))) (mvT hZ (hw _ (List.mem_of_getElem? (i := 27) rfl))) (notFace_of_selects (args := #[]) (mvT hZ (hw _ (List.mem_of_getElem? (i := 29) rfl)))) (mvT hZ (hw _ (List.mem_of_getElem? (i := 29) rfl))) (mvT hZ (hw _ (List.mem_of_getElem? (i := 28) rfl))) (by decide) (backOf (W := 0) (rm1 l Z a0 hw [] s3 s1 s2 s3 s4 h129 n0 Zp133 (Sta_INT32.ext Old0_131.2) (Sta_INT64.ext Old0_131.2) (Sta_FLOAT.ext Old0_131.2) (Sta_DOUBLE.ext Old0_131.2)) hZ (hw _ (List.mem_of_getElem? (i := 30) rfl)) (hw _ (List.mem_of_getElem? (i := 3) rfl)) (by decide) (by decide)) q157a q157c (g := (mkF m 134 #[.val (.int p1), .val (.ref b1), .val (.ref b67), .val (.int (3 : Int32)), .val (.ref s3), .unset] [(.ref s3)])) rfl (by rw [hml]; rfl) (Steps.refl _) (argsL := []) (rest := []) (lenOf pd__40__41_Z rfl) rfl (by show 2 * 0 + _ ≤ _; exact Nat.le_of_eq rfl) (hb hby at_134) (fun _ _ => ⟨rfl, e129, (by decide : ((0 + 1) + 1) + 0 ≤ _), (by decide : ((0 + 10) + 10) + 0 ≤ _)⟩)
    dsimp only [Pt.U, Pt.locs, Pt.cells, Pt.slots] at X157 l157 y157 z157 st157 hQ157
    rw [l157, y157, z157] at X157
    obtain ⟨rfl, Nq157, e157⟩ := hQ157
    have Np158 := Fr.app Np134 Nq157
    refine Go.via st157 ?_
    show Go p.tables e below s _ _ _ (T157.setTop (mkF m 137 #[.val (.int p1), .val (.ref b1), .val (.ref b67), .val (.int (3 : Int32)), .val (.ref s3), .unset] [(.int (own_b (s3 = s1 ∨ s3 = s2 ∨ s3 = s3 ∨ s3 = s4)))]))
    refine Go.on (fun t k => XS.istore X157.here hx rfl (hb hby at_137) rfl (l' := #[.val (.int p1), .val (.ref b1), .val (.ref b67), .val (.int (3 : Int32)), .val (.ref s3), .val (.int (own_b (s3 = s1 ∨ s3 = s2 ∨ s3 = s3 ∨ s3 = s4)))]) rfl k) ?_
    show Go p.tables e below s _ _ _ (T157.setTop (mkF m 139 #[.val (.int p1), .val (.ref b1), .val (.ref b67), .val (.int (3 : Int32)), .val (.ref s3), .val (.int (own_b (s3 = s1 ∨ s3 = s2 ∨ s3 = s3 ∨ s3 = s4)))] []))
    refine Go.on (fun t k => XS.iload X157.here hx rfl (hb hby at_139) rfl k) ?_
    show Go p.tables e below s _ _ _ (T157.setTop (mkF m 141 #[.val (.int p1), .val (.ref b1), .val (.ref b67), .val (.int (3 : Int32)), .val (.ref s3), .val (.int (own_b (s3 = s1 ∨ s3 = s2 ∨ s3 = s3 ∨ s3 = s4)))] [(.int (own_b (s3 = s1 ∨ s3 = s2 ∨ s3 = s3 ∨ s3 = s4)))]))
    refine Go.on (fun t k => XS.aloadN X157.here hx rfl (hb hby at_141) rfl rfl k) ?_
    show Go p.tables e below s _ _ _ (T157.setTop (mkF m 142 #[.val (.int p1), .val (.ref b1), .val (.ref b67), .val (.int (3 : Int32)), .val (.ref s3), .val (.int (own_b (s3 = s1 ∨ s3 = s2 ∨ s3 = s3 ∨ s3 = s4)))] [(.ref b67), (.int (own_b (s3 = s1 ∨ s3 = s2 ∨ s3 = s3 ∨ s3 = s4)))]))
    refine Go.on (fun t k => XS.iloadN X157.here hx rfl (hb hby at_142) rfl k) ?_
    show Go p.tables e below s _ _ _ (T157.setTop (mkF m 143 #[.val (.int p1), .val (.ref b1), .val (.ref b67), .val (.int (3 : Int32)), .val (.ref s3), .val (.int (own_b (s3 = s1 ∨ s3 = s2 ∨ s3 = s3 ∨ s3 = s4)))] [(.int (3 : Int32)), (.ref b67), (.int (own_b (s3 = s1 ∨ s3 = s2 ∨ s3 = s3 ∨ s3 = s4)))]))
    obtain ⟨cl159, Ar159, q159, S159, M159, H159, G159⟩ := id Vb67_130
    have hin159 : ¬ ((3 : Int32) < 0 ∨ cl159.slots.size ≤ ((3 : Int32)).toNatClampNeg) := inb_of S159 ⟨by decide, by decide⟩
    have hat159 : cl159.slots[((3 : Int32)).toNatClampNeg]? = some (.int (1 : Int32)) := H159.at hin159 rfl
    refine Go.on (fun t k => X157.baloadBooleans hx (j := (3 : Int32)) (v := (.int (1 : Int32))) (by rw [e157]; exact Ar159.1) (State.isArrayOf_alike hZ.alike Ar159.2.1) Ar159.2.2 hin159 hat159 (g := (mkF m 143 #[.val (.int p1), .val (.ref b1), .val (.ref b67), .val (.int (3 : Int32)), .val (.ref s3), .val (.int (own_b (s3 = s1 ∨ s3 = s2 ∨ s3 = s3 ∨ s3 = s4)))] [(.int (3 : Int32)), (.ref b67), (.int (own_b (s3 = s1 ∨ s3 = s2 ∨ s3 = s3 ∨ s3 = s4)))])) rfl rfl (hb hby at_143) t k) ?_
    show Go p.tables e below s _ _ _ (T157.setTop (mkF m 144 #[.val (.int p1), .val (.ref b1), .val (.ref b67), .val (.int (3 : Int32)), .val (.ref s3), .val (.int (own_b (s3 = s1 ∨ s3 = s2 ∨ s3 = s3 ∨ s3 = s4)))] [(.int (1 : Int32)), (.int (own_b (s3 = s1 ∨ s3 = s2 ∨ s3 = s3 ∨ s3 = s4)))]))
    refine Go.on (fun t k => XS.icmpYes X157.here hx rfl (pc0 := 144) (pc' := 149) rfl (hb hby at_144) rfl (teq (own_bt (Or.inr (Or.inr (Or.inl rfl))))).1 (by decide) (by decide) k) ?_
    show Go p.tables e below s _ _ _ (T157.setTop (mkF m 149 #[.val (.int p1), .val (.ref b1), .val (.ref b67), .val (.int (3 : Int32)), .val (.ref s3), .val (.int (own_b (s3 = s1 ∨ s3 = s2 ∨ s3 = s3 ∨ s3 = s4)))] []))
    refine Go.on (fun t k => XS.iload X157.here hx rfl (hb hby at_149) rfl k) ?_
    show Go p.tables e below s _ _ _ (T157.setTop (mkF m 151 #[.val (.int p1), .val (.ref b1), .val (.ref b67), .val (.int (3 : Int32)), .val (.ref s3), .val (.int (own_b (s3 = s1 ∨ s3 = s2 ∨ s3 = s3 ∨ s3 = s4)))] [(.int (own_b (s3 = s1 ∨ s3 = s2 ∨ s3 = s3 ∨ s3 = s4)))]))
    refine Go.on (fun t k => XS.ifNo X157.here hx rfl (hb hby at_151) rfl ((if0 _ _).trans (feq (fun q => own_b0 q (Or.inr (Or.inr (Or.inl rfl))))).1) k) ?_
    show Go p.tables e below s _ _ _ (T157.setTop (mkF m 154 #[.val (.int p1), .val (.ref b1), .val (.ref b67), .val (.int (3 : Int32)), .val (.ref s3), .val (.int (own_b (s3 = s1 ∨ s3 = s2 ∨ s3 = s3 ∨ s3 = s4)))] []))
    refine Go.on (fun t k => XS.aload X157.here hx rfl (hb hby at_154) rfl rfl k) ?_
    show Go p.tables e below s _ _ _ (T157.setTop (mkF m 156 #[.val (.int p1), .val (.ref b1), .val (.ref b67), .val (.int (3 : Int32)), .val (.ref s3), .val (.int (own_b (s3 = s1 ∨ s3 = s2 ∨ s3 = s3 ∨ s3 = s4)))] [(.ref s3)]))
    obtain ⟨cq160, kq160, q160a, q160b, q160c⟩ := isOf hZ e157 Ex_156
    obtain ⟨_, _, ⟨T160, L160, k160, n160⟩, -, X160, ⟨Lc160, hQ160, l160, y160, z160⟩, st160⟩ := X157.virtualBack hx (y := (⟨"com/example/tidewell/tidewell/model/DataType", "isCharacter", "()Z"⟩ : MethodName)) (z := (⟨"com/example/tidewell/tidewell/model/DataType", "isCharacter", "()Z"⟩ : MethodName)) hown (mvT hZ (hw _ (List.mem_of_getElem? (i := 35) rfl))) (mvT hZ (hw _ (List.mem_of_getElem? (i := 36) rfl))) (notFace_of_selects (args := #[]) (mvT hZ (hw _ (List.mem_of_getElem? (i := 38) rfl)))) (mvT hZ (hw _ (List.mem_of_getElem? (i := 38) rfl))) (mvT hZ (hw _ (List.mem_of_getElem? (i := 37) rfl))) (by decide) (backOf (W := 0) (rm2 l Z a0 hw [] s3 s5 s6 h129 n0 Zp133 (Sta_TEXT.ext Old0_131.2) (Sta_STRING.ext Old0_131.2)) hZ (hw _ (List.mem_of_getElem? (i := 39) rfl)) (hw _ (List.mem_of_getElem? (i := 3) rfl)) (by decide) (by decide)) q160a q160c (g := (mkF m 156 #[.val (.int p1), .val (.ref b1), .val (.ref b67), .val (.int (3 : Int32)), .val (.ref s3), .val (.int (own_b (s3 = s1 ∨ s3 = s2 ∨ s3 = s3 ∨ s3 = s4)))] [(.ref s3)])) rfl (by rw [hml]; rfl) (Steps.refl _) (argsL := []) (rest := []) (lenOf pd__40__41_Z rfl) rfl (by show 2 * 0 + _ ≤ _; exact Nat.le_of_eq rfl) (hb hby at_156) (fun _ _ => ⟨rfl, e157, (by decide : (((0 + 1) + 1) + 0) + 0 ≤ _), (by decide : (((0 + 10) + 10) + 0) + 0 ≤ _)⟩)
    dsimp only [Pt.U, Pt.locs, Pt.cells, Pt.slots] at X160 l160 y160 z160 st160 hQ160
    rw [l160, y160, z160] at X160
    obtain ⟨rfl, Nq160, e160⟩ := hQ160
    have Np161 := Fr.app Np158 Nq160
    refine Go.via st160 ?_
    show Go p.tables e below s _ _ _ (T160.setTop (mkF m 159 #[.val (.int p1), .val (.ref b1), .val (.ref b67), .val (.int (3 : Int32)), .val (.ref s3), .val (.int (own_b (s3 = s1 ∨ s3 = s2 ∨ s3 = s3 ∨ s3 = s4)))] [(.int (own_b (s3 = s5 ∨ s3 = s6)))]))
    refine Go.on (fun t k => XS.ifYes X160.here hx rfl (pc0 := 159) (pc' := 164) rfl (hb hby at_159) rfl ((if0 _ _).trans (teq (own_bf fun q => by rcases q with q | q <;> first | exact absurd q (O_s3.ne O_s5 (by decide)) | exact absurd q (O_s3.ne O_s6 (by decide)))).1) (by decide) (by decide) k) ?_
    show Go p.tables e below s _ _ _ (T160.setTop (mkF m 164 #[.val (.int p1), .val (.ref b1), .val (.ref b67), .val (.int (3 : Int32)), .val (.ref s3), .val (.int (own_b (s3 = s1 ∨ s3 = s2 ∨ s3 = s3 ∨ s3 = s4)))] []))
    refine Go.on (fun t k => XS.iconst X160.here hx rfl (hb hby at_164) k) ?_
    show Go p.tables e below s _ _ _ (T160.setTop (mkF m 165 #[.val (.int p1), .val (.ref b1), .val (.ref b67), .val (.int (3 : Int32)), .val (.ref s3), .val (.int (own_b (s3 = s1 ∨ s3 = s2 ∨ s3 = s3 ∨ s3 = s4)))] [(.int (1 : Int32))]))
    refine Go.retN X160 hx hlk (t := .boolean) Bd.returns (by simp) (hb hby at_165) (by decide) (by decide) e160 ?_
    exact ⟨rfl, Np161⟩
  · rw [hs135]
    refine Go.on (fun t k => XS.istoreN X129.here hx rfl (hb hby at_126) rfl (l' := #[.val (.int p1), .val (.ref b1), .val (.ref b67), .val (.int (4 : Int32)), .unset, .unset]) rfl k) ?_
    show Go p.tables e below s _ _ _ (T129.setTop (mkF m 127 #[.val (.int p1), .val (.ref b1), .val (.ref b67), .val (.int (4 : Int32)), .unset, .unset] []))
    refine Go.on (fun t k => XS.aloadN X129.here hx rfl (hb hby at_127) rfl rfl k) ?_
    show Go p.tables e below s _ _ _ (T129.setTop (mkF m 128 #[.val (.int p1), .val (.ref b1), .val (.ref b67), .val (.int (4 : Int32)), .unset, .unset] [(.ref b1)]))
    refine Go.on (fun t k => XS.iloadN X129.here hx rfl (hb hby at_128) rfl k) ?_
    show Go p.tables e below s _ _ _ (T129.setTop (mkF m 129 #[.val (.int p1), .val (.ref b1), .val (.ref b67), .val (.int (4 : Int32)), .unset, .unset] [(.int (4 : Int32)), (.ref b1)]))
    obtain ⟨cl162, Ar162, q162, S162, M162, H162, G162⟩ := id Vb1_132
    have hin162 : ¬ ((4 : Int32) < 0 ∨ cl162.slots.size ≤ ((4 : Int32)).toNatClampNeg) := inb_of S162 ⟨by decide, by decide⟩
    have hat162 : cl162.slots[((4 : Int32)).toNatClampNeg]? = some (.ref s4) := H162.at hin162 rfl
    refine Go.on (fun t k => X129.aaload hx (j := (4 : Int32)) (v := (.ref s4)) (by rw [e129]; exact Ar162.1) (State.isArrayOf_alike hZ.alike Ar162.2.1) rfl Ar162.2.2 hin162 hat162 (g := (mkF m 129 #[.val (.int p1), .val (.ref b1), .val (.ref b67), .val (.int (4 : Int32)), .unset, .unset] [(.int (4 : Int32)), (.ref b1)])) rfl rfl (hb hby at_129) t k) ?_
    show Go p.tables e below s _ _ _ (T129.setTop (mkF m 130 #[.val (.int p1), .val (.ref b1), .val (.ref b67), .val (.int (4 : Int32)), .unset, .unset] [(.ref s4)]))
    refine Go.on (fun t k => XS.astore X129.here hx rfl (hb hby at_130) rfl rfl (l' := #[.val (.int p1), .val (.ref b1), .val (.ref b67), .val (.int (4 : Int32)), .val (.ref s4), .unset]) rfl k) ?_
    show Go p.tables e below s _ _ _ (T129.setTop (mkF m 132 #[.val (.int p1), .val (.ref b1), .val (.ref b67), .val (.int (4 : Int32)), .val (.ref s4), .unset] []))
    refine Go.on (fun t k => XS.aload X129.here hx rfl (hb hby at_132) rfl rfl k) ?_
    show Go p.tables e below s _ _ _ (T129.setTop (mkF m 134 #[.val (.int p1), .val (.ref b1), .val (.ref b67), .val (.int (4 : Int32)), .val (.ref s4), .unset] [(.ref s4)]))
    have Ex_163 := (E_s4.ext Old0_131.2)
    obtain ⟨cq164, kq164, q164a, q164b, q164c⟩ := isOf hZ e129 Ex_163
    obtain ⟨_, _, ⟨T164, L164, k164, n164⟩, -, X164, ⟨Lc164, hQ164, l164, y164, z164⟩, st164⟩ := X129.virtualBack hx (y := (⟨"com/example/tidewell/tidewell/model/DataType", "isNumeric", "()Z"⟩ : MethodName)) (z := (⟨"com/example/tidewell/tidewell/model/DataType", "isNumeric", "()Z"⟩ : MethodName)) hown (mvT hZ (hw _ (List.mem_of_getElem? (i := 26) rfl))) (mvT hZ (hw _ (List.mem_of_getElem? (i := 27) rfl))) (notFace_of_selects (args := #[]) (mvT hZ (hw _ (List.mem_of_getElem? (i := 29) rfl)))) (mvT hZ (hw _ (List.mem_of_getElem? (i := 29) rfl))) (mvT hZ (hw _ (List.mem_of_getElem? (i := 28) rfl))) (by decide) (backOf (W := 0) (rm1 l Z a0 hw [] s4 s1 s2 s3 s4 h129 n0 Zp133 (Sta_INT32.ext Old0_131.2) (Sta_INT64.ext Old0_131.2) (Sta_FLOAT.ext Old0_131.2) (Sta_DOUBLE.ext Old0_131.2)) hZ (hw _ (List.mem_of_getElem? (i := 30) rfl)) (hw _ (List.mem_of_getElem? (i := 3) rfl)) (by decide) (by decide)) q164a q164c (g := (mkF m 134 #[.val (.int p1), .val (.ref b1), .val (.ref b67), .val (.int (4 : Int32)), .val (.ref s4), .unset] [(.ref s4)])) rfl (by rw [hml]; rfl) (Steps.refl _) (argsL := []) (rest := []) (lenOf pd__40__41_Z rfl) rfl (by show 2 * 0 + _ ≤ _; exact Nat.le_of_eq rfl) (hb hby at_134) (fun _ _ => ⟨rfl, e129, (by decide : ((0 + 1) + 1) + 0 ≤ _), (by decide : ((0 + 10) + 10) + 0 ≤ _)⟩)
    dsimp only [Pt.U, Pt.locs, Pt.cells, Pt.slots] at X164 l164 y164 z164 st164 hQ164
    rw [l164, y164, z164] at X164
    obtain ⟨rfl, Nq164, e164⟩ := hQ164
    have Np165 := Fr.app Np134 Nq164
    refine Go.via st164 ?_
    show Go p.tables e below s _ _ _ (T164.setTop (mkF m 137 #[.val (.int p1), .val (.ref b1), .val (.ref b67), .val (.int (4 : Int32)), .val (.ref s4), .unset] [(.int (own_b (s4 = s1 ∨ s4 = s2 ∨ s4 = s3 ∨ s4 = s4)))]))
    refine Go.on (fun t k => XS.istore X164.here hx rfl (hb hby at_137) rfl (l' := #[.val (.int p1), .val (.ref b1), .val (.ref b67), .val (.int (4 : Int32)), .val (.ref s4), .val (.int (own_b (s4 = s1 ∨ s4 = s2 ∨ s4 = s3 ∨ s4 = s4)))]) rfl k) ?_
    show Go p.tables e below s _ _ _ (T164.setTop (mkF m 139 #[.val (.int p1), .val (.ref b1), .val (.ref b67), .val (.int (4 : Int32)), .val (.ref s4), .val (.int (own_b (s4 = s1 ∨ s4 = s2 ∨ s4 = s3 ∨ s4 = s4)))] []))
    refine Go.on (fun t k => XS.iload X164.here hx rfl (hb hby at_139) rfl k) ?_
    show Go p.tables e below s _ _ _ (T164.setTop (mkF m 141 #[.val (.int p1), .val (.ref b1), .val (.ref b67), .val (.int (4 : Int32)), .val (.ref s4), .val (.int (own_b (s4 = s1 ∨ s4 = s2 ∨ s4 = s3 ∨ s4 = s4)))] [(.int (own_b (s4 = s1 ∨ s4 = s2 ∨ s4 = s3 ∨ s4 = s4)))]))
    refine Go.on (fun t k => XS.aloadN X164.here hx rfl (hb hby at_141) rfl rfl k) ?_
    show Go p.tables e below s _ _ _ (T164.setTop (mkF m 142 #[.val (.int p1), .val (.ref b1), .val (.ref b67), .val (.int (4 : Int32)), .val (.ref s4), .val (.int (own_b (s4 = s1 ∨ s4 = s2 ∨ s4 = s3 ∨ s4 = s4)))] [(.ref b67), (.int (own_b (s4 = s1 ∨ s4 = s2 ∨ s4 = s3 ∨ s4 = s4)))]))
    refine Go.on (fun t k => XS.iloadN X164.here hx rfl (hb hby at_142) rfl k) ?_
    show Go p.tables e below s _ _ _ (T164.setTop (mkF m 143 #[.val (.int p1), .val (.ref b1), .val (.ref b67), .val (.int (4 : Int32)), .val (.ref s4), .val (.int (own_b (s4 = s1 ∨ s4 = s2 ∨ s4 = s3 ∨ s4 = s4)))] [(.int (4 : Int32)), (.ref b67), (.int (own_b (s4 = s1 ∨ s4 = s2 ∨ s4 = s3 ∨ s4 = s4)))]))
    obtain ⟨cl166, Ar166, q166, S166, M166, H166, G166⟩ := id Vb67_130
    have hin166 : ¬ ((4 : Int32) < 0 ∨ cl166.slots.size ≤ ((4 : Int32)).toNatClampNeg) := inb_of S166 ⟨by decide, by decide⟩
    have hat166 : cl166.slots[((4 : Int32)).toNatClampNeg]? = some (.int (1 : Int32)) := H166.at hin166 rfl
    refine Go.on (fun t k => X164.baloadBooleans hx (j := (4 : Int32)) (v := (.int (1 : Int32))) (by rw [e164]; exact Ar166.1) (State.isArrayOf_alike hZ.alike Ar166.2.1) Ar166.2.2 hin166 hat166 (g := (mkF m 143 #[.val (.int p1), .val (.ref b1), .val (.ref b67), .val (.int (4 : Int32)), .val (.ref s4), .val (.int (own_b (s4 = s1 ∨ s4 = s2 ∨ s4 = s3 ∨ s4 = s4)))] [(.int (4 : Int32)), (.ref b67), (.int (own_b (s4 = s1 ∨ s4 = s2 ∨ s4 = s3 ∨ s4 = s4)))])) rfl rfl (hb hby at_143) t k) ?_
    show Go p.tables e below s _ _ _ (T164.setTop (mkF m 144 #[.val (.int p1), .val (.ref b1), .val (.ref b67), .val (.int (4 : Int32)), .val (.ref s4), .val (.int (own_b (s4 = s1 ∨ s4 = s2 ∨ s4 = s3 ∨ s4 = s4)))] [(.int (1 : Int32)), (.int (own_b (s4 = s1 ∨ s4 = s2 ∨ s4 = s3 ∨ s4 = s4)))]))
    refine Go.on (fun t k => XS.icmpYes X164.here hx rfl (pc0 := 144) (pc' := 149) rfl (hb hby at_144) rfl (teq (own_bt (Or.inr (Or.inr (Or.inr (rfl)))))).1 (by decide) (by decide) k) ?_
    show Go p.tables e below s _ _ _ (T164.setTop (mkF m 149 #[.val (.int p1), .val (.ref b1), .val (.ref b67), .val (.int (4 : Int32)), .val (.ref s4), .val (.int (own_b (s4 = s1 ∨ s4 = s2 ∨ s4 = s3 ∨ s4 = s4)))] []))
    refine Go.on (fun t k => XS.iload X164.here hx rfl (hb hby at_149) rfl k) ?_
    show Go p.tables e below s _ _ _ (T164.setTop (mkF m 151 #[.val (.int p1), .val (.ref b1), .val (.ref b67), .val (.int (4 : Int32)), .val (.ref s4), .val (.int (own_b (s4 = s1 ∨ s4 = s2 ∨ s4 = s3 ∨ s4 = s4)))] [(.int (own_b (s4 = s1 ∨ s4 = s2 ∨ s4 = s3 ∨ s4 = s4)))]))
    refine Go.on (fun t k => XS.ifNo X164.here hx rfl (hb hby at_151) rfl ((if0 _ _).trans (feq (fun q => own_b0 q (Or.inr (Or.inr (Or.inr (rfl)))))).1) k) ?_
    show Go p.tables e below s _ _ _ (T164.setTop (mkF m 154 #[.val (.int p1), .val (.ref b1), .val (.ref b67), .val (.int (4 : Int32)), .val (.ref s4), .val (.int (own_b (s4 = s1 ∨ s4 = s2 ∨ s4 = s3 ∨ s4 = s4)))] []))
    refine Go.on (fun t k => XS.aload X164.here hx rfl (hb hby at_154) rfl rfl k) ?_
    show Go p.tables e below s _ _ _ (T164.setTop (mkF m 156 #[.val (.int p1), .val (.ref b1), .val (.ref b67), .val (.int (4 : Int32)), .val (.ref s4), .val (.int (own_b (s4 = s1 ∨ s4 = s2 ∨ s4 = s3 ∨ s4 = s4)))] [(.ref s4)]))
    obtain ⟨cq167, kq167, q167a, q167b, q167c⟩ := isOf hZ e164 Ex_163
    obtain ⟨_, _, ⟨T167, L167, k167, n167⟩, -, X167, ⟨Lc167, hQ167, l167, y167, z167⟩, st167⟩ := X164.virtualBack hx (y := (⟨"com/example/tidewell/tidewell/model/DataType", "isCharacter", "()Z"⟩ : MethodName)) (z := (⟨"com/example/tidewell/tidewell/model/DataType", "isCharacter", "()Z"⟩ : MethodName)) hown (mvT hZ (hw _ (List.mem_of_getElem? (i := 35) rfl))) (mvT hZ (hw _ (List.mem_of_getElem? (i := 36) rfl))) (notFace_of_selects (args := #[]) (mvT hZ (hw _ (List.mem_of_getElem? (i := 38) rfl)))) (mvT hZ (hw _ (List.mem_of_getElem? (i := 38) rfl))) (mvT hZ (hw _ (List.mem_of_getElem? (i := 37) rfl))) (by decide) (backOf (W := 0) (rm2 l Z a0 hw [] s4 s5 s6 h129 n0 Zp133 (Sta_TEXT.ext Old0_131.2) (Sta_STRING.ext Old0_131.2)) hZ (hw _ (List.mem_of_getElem? (i := 39) rfl)) (hw _ (List.mem_of_getElem? (i := 3) rfl)) (by decide) (by decide)) q167a q167c (g := (mkF m 156 #[.val (.int p1), .val (.ref b1), .val (.ref b67), .val (.int (4 : Int32)), .val (.ref s4), .val (.int (own_b (s4 = s1 ∨ s4 = s2 ∨ s4 = s3 ∨ s4 = s4)))] [(.ref s4)])) rfl (by rw [hml]; rfl) (Steps.refl _) (argsL := []) (rest := []) (lenOf pd__40__41_Z rfl) rfl (by show 2 * 0 + _ ≤ _; exact Nat.le_of_eq rfl) (hb hby at_156) (fun _ _ => ⟨rfl, e164, (by decide : (((0 + 1) + 1) + 0) + 0 ≤ _), (by decide : (((0 + 10) + 10) + 0) + 0 ≤ _)⟩)
    dsimp only [Pt.U, Pt.locs, Pt.cells, Pt.slots] at X167 l167 y167 z167 st167 hQ167
    rw [l167, y167, z167] at X167
    obtain ⟨rfl, Nq167, e167⟩ := hQ167
    have Np168 := Fr.app Np165 Nq167
    refine Go.via st167 ?_
    show Go p.tables e below s _ _ _ (T167.setTop (mkF m 159 #[.val (.int p1), .val (.ref b1), .val (.ref b67), .val (.int (4 : Int32)), .val (.ref s4), .val (.int (own_b (s4 = s1 ∨ s4 = s2 ∨ s4 = s3 ∨ s4 = s4)))] [(.int (own_b (s4 = s5 ∨ s4 = s6)))]))
    refine Go.on (fun t k => XS.ifYes X167.here hx rfl (pc0 := 159) (pc' := 164) rfl (hb hby at_159) rfl ((if0 _ _).trans (teq (own_bf fun q => by rcases q with q | q <;> first | exact absurd q (O_s4.ne O_s5 (by decide)) | exact absurd q (O_s4.ne O_s6 (by decide)))).1) (by decide) (by decide) k) ?_
    show Go p.tables e below s _ _ _ (T167.setTop (mkF m 164 #[.val (.int p1), .val (.ref b1), .val (.ref b67), .val (.int (4 : Int32)), .val (.ref s4), .val (.int (own_b (s4 = s1 ∨ s4 = s2 ∨ s4 = s3 ∨ s4 = s4)))] []))
    refine Go.on (fun t k => XS.iconst X167.here hx rfl (hb hby at_164) k) ?_
    show Go p.tables e below s _ _ _ (T167.setTop (mkF m 165 #[.val (.int p1), .val (.ref b1), .val (.ref b67), .val (.int (4 : Int32)), .val (.ref s4), .val (.int (own_b (s4 = s1 ∨ s4 = s2 ∨ s4 = s3 ∨ s4 = s4)))] [(.int (1 : Int32))]))
    refine Go.retN X167 hx hlk (t := .boolean) Bd.returns (by simp) (hb hby at_165) (by decide) (by decide) e167 ?_
    exact ⟨rfl, Np168⟩
  · rw [hs135]
    refine Go.on (fun t k => XS.istoreN X129.here hx rfl (hb hby at_126) rfl (l' := #[.val (.int p1), .val (.ref b1), .val (.ref b67), .val (.int (5 : Int32)), .unset, .unset]) rfl k) ?_
    show Go p.tables e below s _ _ _ (T129.setTop (mkF m 127 #[.val (.int p1), .val (.ref b1), .val (.ref b67), .val (.int (5 : Int32)), .unset, .unset] []))
    refine Go.on (fun t k => XS.aloadN X129.here hx rfl (hb hby at_127) rfl rfl k) ?_
    show Go p.tables e below s _ _ _ (T129.setTop (mkF m 128 #[.val (.int p1), .val (.ref b1), .val (.ref b67), .val (.int (5 : Int32)), .unset, .unset] [(.ref b1)]))
    refine Go.on (fun t k => XS.iloadN X129.here hx rfl (hb hby at_128) rfl k) ?_
    show Go p.tables e below s _ _ _ (T129.setTop (mkF m 129 #[.val (.int p1), .val (.ref b1), .val (.ref b67), .val (.int (5 : Int32)), .unset, .unset] [(.int (5 : Int32)), (.ref b1)]))
    obtain ⟨cl169, Ar169, q169, S169, M169, H169, G169⟩ := id Vb1_132
    have hin169 : ¬ ((5 : Int32) < 0 ∨ cl169.slots.size ≤ ((5 : Int32)).toNatClampNeg) := inb_of S169 ⟨by decide, by decide⟩
    have hat169 : cl169.slots[((5 : Int32)).toNatClampNeg]? = some (.ref s5) := H169.at hin169 rfl
    refine Go.on (fun t k => X129.aaload hx (j := (5 : Int32)) (v := (.ref s5)) (by rw [e129]; exact Ar169.1) (State.isArrayOf_alike hZ.alike Ar169.2.1) rfl Ar169.2.2 hin169 hat169 (g := (mkF m 129 #[.val (.int p1), .val (.ref b1), .val (.ref b67), .val (.int (5 : Int32)), .unset, .unset] [(.int (5 : Int32)), (.ref b1)])) rfl rfl (hb hby at_129) t k) ?_
    show Go p.tables e below s _ _ _ (T129.setTop (mkF m 130 #[.val (.int p1), .val (.ref b1), .val (.ref b67), .val (.int (5 : Int32)), .unset, .unset] [(.ref s5)]))
    refine Go.on (fun t k => XS.astore X129.here hx rfl (hb hby at_130) rfl rfl (l' := #[.val (.int p1), .val (.ref b1), .val (.ref b67), .val (.int (5 : Int32)), .val (.ref s5), .unset]) rfl k) ?_
    show Go p.tables e below s _ _ _ (T129.setTop (mkF m 132 #[.val (.int p1), .val (.ref b1), .val (.ref b67), .val (.int (5 : Int32)), .val (.ref s5), .unset] []))
    refine Go.on (fun t k => XS.aload X129.here hx rfl (hb hby at_132) rfl rfl k) ?_
    show Go p.tables e below s _ _ _ (T129.setTop (mkF m 134 #[.val (.int p1), .val (.ref b1), .val (.ref b67), .val (.int (5 : Int32)), .val (.ref s5), .unset] [(.ref s5)]))
    have Ex_170 := (E_s5.ext Old0_131.2)
    obtain ⟨cq171, kq171, q171a, q171b, q171c⟩ := isOf hZ e129 Ex_170
    obtain ⟨_, _, ⟨T171, L171, k171, n171⟩, -, X171, ⟨Lc171, hQ171, l171, y171, z171⟩, st171⟩ := X129.virtualBack hx (y := (⟨"com/example/tidewell/tidewell/model/DataType", "isNumeric", "()Z"⟩ : MethodName)) (z := (⟨"com/example/tidewell/tidewell/model/DataType", "isNumeric", "()Z"⟩ : MethodName)) hown (mvT hZ (hw _ (List.mem_of_getElem? (i := 26) rfl))) (mvT hZ (hw _ (List.mem_of_getElem? (i := 27) rfl))) (notFace_of_selects (args := #[]) (mvT hZ (hw _ (List.mem_of_getElem? (i := 29) rfl)))) (mvT hZ (hw _ (List.mem_of_getElem? (i := 29) rfl))) (mvT hZ (hw _ (List.mem_of_getElem? (i := 28) rfl))) (by decide) (backOf (W := 0) (rm1 l Z a0 hw [] s5 s1 s2 s3 s4 h129 n0 Zp133 (Sta_INT32.ext Old0_131.2) (Sta_INT64.ext Old0_131.2) (Sta_FLOAT.ext Old0_131.2) (Sta_DOUBLE.ext Old0_131.2)) hZ (hw _ (List.mem_of_getElem? (i := 30) rfl)) (hw _ (List.mem_of_getElem? (i := 3) rfl)) (by decide) (by decide)) q171a q171c (g := (mkF m 134 #[.val (.int p1), .val (.ref b1), .val (.ref b67), .val (.int (5 : Int32)), .val (.ref s5), .unset] [(.ref s5)])) rfl (by rw [hml]; rfl) (Steps.refl _) (argsL := []) (rest := []) (lenOf pd__40__41_Z rfl) rfl (by show 2 * 0 + _ ≤ _; exact Nat.le_of_eq rfl) (hb hby at_134) (fun _ _ => ⟨rfl, e129, (by decide : ((0 + 1) + 1) + 0 ≤ _), (by decide : ((0 + 10) + 10) + 0 ≤ _)⟩)
    dsimp only [Pt.U, Pt.locs, Pt.cells, Pt.slots] at X171 l171 y171 z171 st171 hQ171
    rw [l171, y171, z171] at X171
    obtain ⟨rfl, Nq171, e171⟩ := hQ171
    have Np172 := Fr.app Np134 Nq171
    refine Go.via st171 ?_
    show Go p.tables e below s _ _ _ (T171.setTop (mkF m 137 #[.val (.int p1), .val (.ref b1), .val (.ref b67), .val (.int (5 : Int32)), .val (.ref s5), .unset] [(.int (own_b (s5 = s1 ∨ s5 = s2 ∨ s5 = s3 ∨ s5 = s4)))]))
    refine Go.on (fun t k => XS.istore X171.here hx rfl (hb hby at_137) rfl (l' := #[.val (.int p1), .val (.ref b1), .val (.ref b67), .val (.int (5 : Int32)), .val (.ref s5), .val (.int (own_b (s5 = s1 ∨ s5 = s2 ∨ s5 = s3 ∨ s5 = s4)))]) rfl k) ?_
    show Go p.tables e below s _ _ _ (T171.setTop (mkF m 139 #[.val (.int p1), .val (.ref b1), .val (.ref b67), .val (.int (5 : Int32)), .val (.ref s5), .val (.int (own_b (s5 = s1 ∨ s5 = s2 ∨ s5 = s3 ∨ s5 = s4)))] []))
    refine Go.on (fun t k => XS.iload X171.here hx rfl (hb hby at_139) rfl k) ?_
    show Go p.tables e below s _ _ _ (T171.setTop (mkF m 141 #[.val (.int p1), .val (.ref b1), .val (.ref b67), .val (.int (5 : Int32)), .val (.ref s5), .val (.int (own_b (s5 = s1 ∨ s5 = s2 ∨ s5 = s3 ∨ s5 = s4)))] [(.int (own_b (s5 = s1 ∨ s5 = s2 ∨ s5 = s3 ∨ s5 = s4)))]))
    refine Go.on (fun t k => XS.aloadN X171.here hx rfl (hb hby at_141) rfl rfl k) ?_
    show Go p.tables e below s _ _ _ (T171.setTop (mkF m 142 #[.val (.int p1), .val (.ref b1), .val (.ref b67), .val (.int (5 : Int32)), .val (.ref s5), .val (.int (own_b (s5 = s1 ∨ s5 = s2 ∨ s5 = s3 ∨ s5 = s4)))] [(.ref b67), (.int (own_b (s5 = s1 ∨ s5 = s2 ∨ s5 = s3 ∨ s5 = s4)))]))
    refine Go.on (fun t k => XS.iloadN X171.here hx rfl (hb hby at_142) rfl k) ?_
    show Go p.tables e below s _ _ _ (T171.setTop (mkF m 143 #[.val (.int p1), .val (.ref b1), .val (.ref b67), .val (.int (5 : Int32)), .val (.ref s5), .val (.int (own_b (s5 = s1 ∨ s5 = s2 ∨ s5 = s3 ∨ s5 = s4)))] [(.int (5 : Int32)), (.ref b67), (.int (own_b (s5 = s1 ∨ s5 = s2 ∨ s5 = s3 ∨ s5 = s4)))]))
    obtain ⟨cl173, Ar173, q173, S173, M173, H173, G173⟩ := id Vb67_130
    have hin173 : ¬ ((5 : Int32) < 0 ∨ cl173.slots.size ≤ ((5 : Int32)).toNatClampNeg) := inb_of S173 ⟨by decide, by decide⟩
    have hat173 : cl173.slots[((5 : Int32)).toNatClampNeg]? = some (.int (0 : Int32)) := H173.at hin173 rfl
    refine Go.on (fun t k => X171.baloadBooleans hx (j := (5 : Int32)) (v := (.int (0 : Int32))) (by rw [e171]; exact Ar173.1) (State.isArrayOf_alike hZ.alike Ar173.2.1) Ar173.2.2 hin173 hat173 (g := (mkF m 143 #[.val (.int p1), .val (.ref b1), .val (.ref b67), .val (.int (5 : Int32)), .val (.ref s5), .val (.int (own_b (s5 = s1 ∨ s5 = s2 ∨ s5 = s3 ∨ s5 = s4)))] [(.int (5 : Int32)), (.ref b67), (.int (own_b (s5 = s1 ∨ s5 = s2 ∨ s5 = s3 ∨ s5 = s4)))])) rfl rfl (hb hby at_143) t k) ?_
    show Go p.tables e below s _ _ _ (T171.setTop (mkF m 144 #[.val (.int p1), .val (.ref b1), .val (.ref b67), .val (.int (5 : Int32)), .val (.ref s5), .val (.int (own_b (s5 = s1 ∨ s5 = s2 ∨ s5 = s3 ∨ s5 = s4)))] [(.int (0 : Int32)), (.int (own_b (s5 = s1 ∨ s5 = s2 ∨ s5 = s3 ∨ s5 = s4)))]))
    refine Go.on (fun t k => XS.icmpYes X171.here hx rfl (pc0 := 144) (pc' := 149) rfl (hb hby at_144) rfl (teq (own_bf fun q => by rcases q with q | q | q | q <;> first | exact absurd q (O_s5.ne O_s1 (by decide)) | exact absurd q (O_s5.ne O_s2 (by decide)) | exact absurd q (O_s5.ne O_s3 (by decide)) | exact absurd q (O_s5.ne O_s4 (by decide)))).1 (by decide) (by decide) k) ?_
    show Go p.tables e below s _ _ _ (T171.setTop (mkF m 149 #[.val (.int p1), .val (.ref b1), .val (.ref b67), .val (.int (5 : Int32)), .val (.ref s5), .val (.int (own_b (s5 = s1 ∨ s5 = s2 ∨ s5 = s3 ∨ s5 = s4)))] []))
    refine Go.on (fun t k => XS.iload X171.here hx rfl (hb hby at_149) rfl k) ?_
    show Go p.tables e below s _ _ _ (T171.setTop (mkF m 151 #[.val (.int p1), .val (.ref b1), .val (.ref b67), .val (.int (5 : Int32)), .val (.ref s5), .val (.int (own_b (s5 = s1 ∨ s5 = s2 ∨ s5 = s3 ∨ s5 = s4)))] [(.int (own_b (s5 = s1 ∨ s5 = s2 ∨ s5 = s3 ∨ s5 = s4)))]))
    refine Go.on (fun t k => XS.ifYes X171.here hx rfl (pc0 := 151) (pc' := 164) rfl (hb hby at_151) rfl ((if0 _ _).trans (teq (own_bf fun q => by rcases q with q | q | q | q <;> first | exact absurd q (O_s5.ne O_s1 (by decide)) | exact absurd q (O_s5.ne O_s2 (by decide)) | exact absurd q (O_s5.ne O_s3 (by decide)) | exact absurd q (O_s5.ne O_s4 (by decide)))).1) (by decide) (by decide) k) ?_
    show Go p.tables e below s _ _ _ (T171.setTop (mkF m 164 #[.val (.int p1), .val (.ref b1), .val (.ref b67), .val (.int (5 : Int32)), .val (.ref s5), .val (.int (own_b (s5 = s1 ∨ s5 = s2 ∨ s5 = s3 ∨ s5 = s4)))] []))
    refine Go.on (fun t k => XS.iconst X171.here hx rfl (hb hby at_164) k) ?_
    show Go p.tables e below s _ _ _ (T171.setTop (mkF m 165 #[.val (.int p1), .val (.ref b1), .val (.ref b67), .val (.int (5 : Int32)), .val (.ref s5), .val (.int (own_b (s5 = s1 ∨ s5 = s2 ∨ s5 = s3 ∨ s5 = s4)))] [(.int (1 : Int32))]))
    refine Go.retN X171 hx hlk (t := .boolean) Bd.returns (by simp) (hb hby at_165) (by decide) (by decide) e171 ?_
    exact ⟨rfl, Np172⟩
  · rw [hs135]
    refine Go.on (fun t k => XS.istoreN X129.here hx rfl (hb hby at_126) rfl (l' := #[.val (.int p1), .val (.ref b1), .val (.ref b67), .val (.int (6 : Int32)), .unset, .unset]) rfl k) ?_
    show Go p.tables e below s _ _ _ (T129.setTop (mkF m 127 #[.val (.int p1), .val (.ref b1), .val (.ref b67), .val (.int (6 : Int32)), .unset, .unset] []))
    refine Go.on (fun t k => XS.aloadN X129.here hx rfl (hb hby at_127) rfl rfl k) ?_
    show Go p.tables e below s _ _ _ (T129.setTop (mkF m 128 #[.val (.int p1), .val (.ref b1), .val (.ref b67), .val (.int (6 : Int32)), .unset, .unset] [(.ref b1)]))
    refine Go.on (fun t k => XS.iloadN X129.here hx rfl (hb hby at_128) rfl k) ?_
    show Go p.tables e below s _ _ _ (T129.setTop (mkF m 129 #[.val (.int p1), .val (.ref b1), .val (.ref b67), .val (.int (6 : Int32)), .unset, .unset] [(.int (6 : Int32)), (.ref b1)]))
    obtain ⟨cl174, Ar174, q174, S174, M174, H174, G174⟩ := id Vb1_132
    have hin174 : ¬ ((6 : Int32) < 0 ∨ cl174.slots.size ≤ ((6 : Int32)).toNatClampNeg) := inb_of S174 ⟨by decide, by decide⟩
    have hat174 : cl174.slots[((6 : Int32)).toNatClampNeg]? = some (.ref s6) := H174.at hin174 rfl
    refine Go.on (fun t k => X129.aaload hx (j := (6 : Int32)) (v := (.ref s6)) (by rw [e129]; exact Ar174.1) (State.isArrayOf_alike hZ.alike Ar174.2.1) rfl Ar174.2.2 hin174 hat174 (g := (mkF m 129 #[.val (.int p1), .val (.ref b1), .val (.ref b67), .val (.int (6 : Int32)), .unset, .unset] [(.int (6 : Int32)), (.ref b1)])) rfl rfl (hb hby at_129) t k) ?_
    show Go p.tables e below s _ _ _ (T129.setTop (mkF m 130 #[.val (.int p1), .val (.ref b1), .val (.ref b67), .val (.int (6 : Int32)), .unset, .unset] [(.ref s6)]))
    refine Go.on (fun t k => XS.astore X129.here hx rfl (hb hby at_130) rfl rfl (l' := #[.val (.int p1), .val (.ref b1), .val (.ref b67), .val (.int (6 : Int32)), .val (.ref s6), .unset]) rfl k) ?_
    show Go p.tables e below s _ _ _ (T129.setTop (mkF m 132 #[.val (.int p1), .val (.ref b1), .val (.ref b67), .val (.int (6 : Int32)), .val (.ref s6), .unset] []))
    refine Go.on (fun t k => XS.aload X129.here hx rfl (hb hby at_132) rfl rfl k) ?_
    show Go p.tables e below s _ _ _ (T129.setTop (mkF m 134 #[.val (.int p1), .val (.ref b1), .val (.ref b67), .val (.int (6 : Int32)), .val (.ref s6), .unset] [(.ref s6)]))
    have Ex_175 := (E_s6.ext Old0_131.2)
    obtain ⟨cq176, kq176, q176a, q176b, q176c⟩ := isOf hZ e129 Ex_175
    obtain ⟨_, _, ⟨T176, L176, k176, n176⟩, -, X176, ⟨Lc176, hQ176, l176, y176, z176⟩, st176⟩ := X129.virtualBack hx (y := (⟨"com/example/tidewell/tidewell/model/DataType", "isNumeric", "()Z"⟩ : MethodName)) (z := (⟨"com/example/tidewell/tidewell/model/DataType", "isNumeric", "()Z"⟩ : MethodName)) hown (mvT hZ (hw _ (List.mem_of_getElem? (i := 26) rfl))) (mvT hZ (hw _ (List.mem_of_getElem? (i := 27) rfl))) (notFace_of_selects (args := #[]) (mvT hZ (hw _ (List.mem_of_getElem? (i := 29) rfl)))) (mvT hZ (hw _ (List.mem_of_getElem? (i := 29) rfl))) (mvT hZ (hw _ (List.mem_of_getElem? (i := 28) rfl))) (by decide) (backOf (W := 0) (rm1 l Z a0 hw [] s6 s1 s2 s3 s4 h129 n0 Zp133 (Sta_INT32.ext Old0_131.2) (Sta_INT64.ext Old0_131.2) (Sta_FLOAT.ext Old0_131.2) (Sta_DOUBLE.ext Old0_131.2)) hZ (hw _ (List.mem_of_getElem? (i := 30) rfl)) (hw _ (List.mem_of_getElem? (i := 3) rfl)) (by decide) (by decide)) q176a q176c (g := (mkF m 134 #[.val (.int p1), .val (.ref b1), .val (.ref b67), .val (.int (6 : Int32)), .val (.ref s6), .unset] [(.ref s6)])) rfl (by rw [hml]; rfl) (Steps.refl _) (argsL := []) (rest := []) (lenOf pd__40__41_Z rfl) rfl (by show 2 * 0 + _ ≤ _; exact Nat.le_of_eq rfl) (hb hby at_134) (fun _ _ => ⟨rfl, e129, (by decide : ((0 + 1) + 1) + 0 ≤ _), (by decide : ((0 + 10) + 10) + 0 ≤ _)⟩)
    dsimp only [Pt.U, Pt.locs, Pt.cells, Pt.slots] at X176 l176 y176 z176 st176 hQ176
    rw [l176, y176, z176] at X176
    obtain ⟨rfl, Nq176, e176⟩ := hQ176
    have Np177 := Fr.app Np134 Nq176
    refine Go.via st176 ?_
    show Go p.tables e below s _ _ _ (T176.setTop (mkF m 137 #[.val (.int p1), .val (.ref b1), .val (.ref b67), .val (.int (6 : Int32)), .val (.ref s6), .unset] [(.int (own_b (s6 = s1 ∨ s6 = s2 ∨ s6 = s3 ∨ s6 = s4)))]))
    refine Go.on (fun t k => XS.istore X176.here hx rfl (hb hby at_137) rfl (l' := #[.val (.int p1), .val (.ref b1), .val (.ref b67), .val (.int (6 : Int32)), .val (.ref s6), .val (.int (own_b (s6 = s1 ∨ s6 = s2 ∨ s6 = s3 ∨ s6 = s4)))]) rfl k) ?_
    show Go p.tables e below s _ _ _ (T176.setTop (mkF m 139 #[.val (.int p1), .val (.ref b1), .val (.ref b67), .val (.int (6 : Int32)), .val (.ref s6), .val (.int (own_b (s6 = s1 ∨ s6 = s2 ∨ s6 = s3 ∨ s6 = s4)))] []))
    refine Go.on (fun t k => XS.iload X176.here hx rfl (hb hby at_139) rfl k) ?_
    show Go p.tables e below s _ _ _ (T176.setTop (mkF m 141 #[.val (.int p1), .val (.ref b1), .val (.ref b67), .val (.int (6 : Int32)), .val (.ref s6), .val (.int (own_b (s6 = s1 ∨ s6 = s2 ∨ s6 = s3 ∨ s6 = s4)))] [(.int (own_b (s6 = s1 ∨ s6 = s2 ∨ s6 = s3 ∨ s6 = s4)))]))
    refine Go.on (fun t k => XS.aloadN X176.here hx rfl (hb hby at_141) rfl rfl k) ?_
    show Go p.tables e below s _ _ _ (T176.setTop (mkF m 142 #[.val (.int p1), .val (.ref b1), .val (.ref b67), .val (.int (6 : Int32)), .val (.ref s6), .val (.int (own_b (s6 = s1 ∨ s6 = s2 ∨ s6 = s3 ∨ s6 = s4)))] [(.ref b67), (.int (own_b (s6 = s1 ∨ s6 = s2 ∨ s6 = s3 ∨ s6 = s4)))]))
    refine Go.on (fun t k => XS.iloadN X176.here hx rfl (hb hby at_142) rfl k) ?_
    show Go p.tables e below s _ _ _ (T176.setTop (mkF m 143 #[.val (.int p1), .val (.ref b1), .val (.ref b67), .val (.int (6 : Int32)), .val (.ref s6), .val (.int (own_b (s6 = s1 ∨ s6 = s2 ∨ s6 = s3 ∨ s6 = s4)))] [(.int (6 : Int32)), (.ref b67), (.int (own_b (s6 = s1 ∨ s6 = s2 ∨ s6 = s3 ∨ s6 = s4)))]))
    obtain ⟨cl178, Ar178, q178, S178, M178, H178, G178⟩ := id Vb67_130
    have hin178 : ¬ ((6 : Int32) < 0 ∨ cl178.slots.size ≤ ((6 : Int32)).toNatClampNeg) := inb_of S178 ⟨by decide, by decide⟩
    have hat178 : cl178.slots[((6 : Int32)).toNatClampNeg]? = some (.int (0 : Int32)) := H178.at hin178 rfl
    refine Go.on (fun t k => X176.baloadBooleans hx (j := (6 : Int32)) (v := (.int (0 : Int32))) (by rw [e176]; exact Ar178.1) (State.isArrayOf_alike hZ.alike Ar178.2.1) Ar178.2.2 hin178 hat178 (g := (mkF m 143 #[.val (.int p1), .val (.ref b1), .val (.ref b67), .val (.int (6 : Int32)), .val (.ref s6), .val (.int (own_b (s6 = s1 ∨ s6 = s2 ∨ s6 = s3 ∨ s6 = s4)))] [(.int (6 : Int32)), (.ref b67), (.int (own_b (s6 = s1 ∨ s6 = s2 ∨ s6 = s3 ∨ s6 = s4)))])) rfl rfl (hb hby at_143) t k) ?_
    show Go p.tables e below s _ _ _ (T176.setTop (mkF m 144 #[.val (.int p1), .val (.ref b1), .val (.ref b67), .val (.int (6 : Int32)), .val (.ref s6), .val (.int (own_b (s6 = s1 ∨ s6 = s2 ∨ s6 = s3 ∨ s6 = s4)))] [(.int (0 : Int32)), (.int (own_b (s6 = s1 ∨ s6 = s2 ∨ s6 = s3 ∨ s6 = s4)))]))
    refine Go.on (fun t k => XS.icmpYes X176.here hx rfl (pc0 := 144) (pc' := 149) rfl (hb hby at_144) rfl (teq (own_bf fun q => by rcases q with q | q | q | q <;> first | exact absurd q (O_s6.ne O_s1 (by decide)) | exact absurd q (O_s6.ne O_s2 (by decide)) | exact absurd q (O_s6.ne O_s3 (by decide)) | exact absurd q (O_s6.ne O_s4 (by decide)))).1 (by decide) (by decide) k) ?_
    show Go p.tables e below s _ _ _ (T176.setTop (mkF m 149 #[.val (.int p1), .val (.ref b1), .val (.ref b67), .val (.int (6 : Int32)), .val (.ref s6), .val (.int (own_b (s6 = s1 ∨ s6 = s2 ∨ s6 = s3 ∨ s6 = s4)))] []))
    refine Go.on (fun t k => XS.iload X176.here hx rfl (hb hby at_149) rfl k) ?_
    show Go p.tables e below s _ _ _ (T176.setTop (mkF m 151 #[.val (.int p1), .val (.ref b1), .val (.ref b67), .val (.int (6 : Int32)), .val (.ref s6), .val (.int (own_b (s6 = s1 ∨ s6 = s2 ∨ s6 = s3 ∨ s6 = s4)))] [(.int (own_b (s6 = s1 ∨ s6 = s2 ∨ s6 = s3 ∨ s6 = s4)))]))
    refine Go.on (fun t k => XS.ifYes X176.here hx rfl (pc0 := 151) (pc' := 164) rfl (hb hby at_151) rfl ((if0 _ _).trans (teq (own_bf fun q => by rcases q with q | q | q | q <;> first | exact absurd q (O_s6.ne O_s1 (by decide)) | exact absurd q (O_s6.ne O_s2 (by decide)) | exact absurd q (O_s6.ne O_s3 (by decide)) | exact absurd q (O_s6.ne O_s4 (by decide)))).1) (by decide) (by decide) k) ?_
    show Go p.tables e below s _ _ _ (T176.setTop (mkF m 164 #[.val (.int p1), .val (.ref b1), .val (.ref b67), .val (.int (6 : Int32)), .val (.ref s6), .val (.int (own_b (s6 = s1 ∨ s6 = s2 ∨ s6 = s3 ∨ s6 = s4)))] []))
    refine Go.on (fun t k => XS.iconst X176.here hx rfl (hb hby at_164) k) ?_
    show Go p.tables e below s _ _ _ (T176.setTop (mkF m 165 #[.val (.int p1), .val (.ref b1), .val (.ref b67), .val (.int (6 : Int32)), .val (.ref s6), .val (.int (own_b (s6 = s1 ∨ s6 = s2 ∨ s6 = s3 ∨ s6 = s4)))] [(.int (1 : Int32))]))
    refine Go.retN X176 hx hlk (t := .boolean) Bd.returns (by simp) (hb hby at_165) (by decide) (by decide) e176 ?_
    exact ⟨rfl, Np177⟩
  · rw [hs135]
    refine Go.on (fun t k => XS.istoreN X129.here hx rfl (hb hby at_126) rfl (l' := #[.val (.int p1), .val (.ref b1), .val (.ref b67), .val (.int (7 : Int32)), .unset, .unset]) rfl k) ?_
    show Go p.tables e below s _ _ _ (T129.setTop (mkF m 127 #[.val (.int p1), .val (.ref b1), .val (.ref b67), .val (.int (7 : Int32)), .unset, .unset] []))
    refine Go.on (fun t k => XS.aloadN X129.here hx rfl (hb hby at_127) rfl rfl k) ?_
    show Go p.tables e below s _ _ _ (T129.setTop (mkF m 128 #[.val (.int p1), .val (.ref b1), .val (.ref b67), .val (.int (7 : Int32)), .unset, .unset] [(.ref b1)]))
    refine Go.on (fun t k => XS.iloadN X129.here hx rfl (hb hby at_128) rfl k) ?_
    show Go p.tables e below s _ _ _ (T129.setTop (mkF m 129 #[.val (.int p1), .val (.ref b1), .val (.ref b67), .val (.int (7 : Int32)), .unset, .unset] [(.int (7 : Int32)), (.ref b1)]))
    obtain ⟨cl179, Ar179, q179, S179, M179, H179, G179⟩ := id Vb1_132
    have hin179 : ¬ ((7 : Int32) < 0 ∨ cl179.slots.size ≤ ((7 : Int32)).toNatClampNeg) := inb_of S179 ⟨by decide, by decide⟩
    have hat179 : cl179.slots[((7 : Int32)).toNatClampNeg]? = some (.ref s7) := H179.at hin179 rfl
    refine Go.on (fun t k => X129.aaload hx (j := (7 : Int32)) (v := (.ref s7)) (by rw [e129]; exact Ar179.1) (State.isArrayOf_alike hZ.alike Ar179.2.1) rfl Ar179.2.2 hin179 hat179 (g := (mkF m 129 #[.val (.int p1), .val (.ref b1), .val (.ref b67), .val (.int (7 : Int32)), .unset, .unset] [(.int (7 : Int32)), (.ref b1)])) rfl rfl (hb hby at_129) t k) ?_
    show Go p.tables e below s _ _ _ (T129.setTop (mkF m 130 #[.val (.int p1), .val (.ref b1), .val (.ref b67), .val (.int (7 : Int32)), .unset, .unset] [(.ref s7)]))
    refine Go.on (fun t k => XS.astore X129.here hx rfl (hb hby at_130) rfl rfl (l' := #[.val (.int p1), .val (.ref b1), .val (.ref b67), .val (.int (7 : Int32)), .val (.ref s7), .unset]) rfl k) ?_
    show Go p.tables e below s _ _ _ (T129.setTop (mkF m 132 #[.val (.int p1), .val (.ref b1), .val (.ref b67), .val (.int (7 : Int32)), .val (.ref s7), .unset] []))
    refine Go.on (fun t k => XS.aload X129.here hx rfl (hb hby at_132) rfl rfl k) ?_
    show Go p.tables e below s _ _ _ (T129.setTop (mkF m 134 #[.val (.int p1), .val (.ref b1), .val (.ref b67), .val (.int (7 : Int32)), .val (.ref s7), .unset] [(.ref s7)]))
    have Ex_180 := (E_s7.ext Old0_131.2)
    obtain ⟨cq181, kq181, q181a, q181b, q181c⟩ := isOf hZ e129 Ex_180
    obtain ⟨_, _, ⟨T181, L181, k181, n181⟩, -, X181, ⟨Lc181, hQ181, l181, y181, z181⟩, st181⟩ := X129.virtualBack hx (y := (⟨"com/example/tidewell/tidewell/model/DataType", "isNumeric", "()Z"⟩ : MethodName)) (z := (⟨"com/example/tidewell/tidewell/model/DataType", "isNumeric", "()Z"⟩ : MethodName)) hown (mvT hZ (hw _ (List.mem_of_getElem? (i := 26) rfl))) (mvT hZ (hw _ (List.mem_of_getElem? (i := 27) rfl))) (notFace_of_selects (args := #[]) (mvT hZ (hw _ (List.mem_of_getElem? (i := 29) rfl)))) (mvT hZ (hw _ (List.mem_of_getElem? (i := 29) rfl))) (mvT hZ (hw _ (List.mem_of_getElem? (i := 28) rfl))) (by decide) (backOf (W := 0) (rm1 l Z a0 hw [] s7 s1 s2 s3 s4 h129 n0 Zp133 (Sta_INT32.ext Old0_131.2) (Sta_INT64.ext Old0_131.2) (Sta_FLOAT.ext Old0_131.2) (Sta_DOUBLE.ext Old0_131.2)) hZ (hw _ (List.mem_of_getElem? (i := 30) rfl)) (hw _ (List.mem_of_getElem? (i := 3) rfl)) (by decide) (by decide)) q181a q181c (g := (mkF m 134 #[.val (.int p1), .val (.ref b1), .val (.ref b67), .val (.int (7 : Int32)), .val (.ref s7), .unset] [(.ref s7)])) rfl (by rw [hml]; rfl) (Steps.refl _) (argsL := []) (rest := []) (lenOf pd__40__41_Z rfl) rfl (by show 2 * 0 + _ ≤ _; exact Nat.le_of_eq rfl) (hb hby at_134) (fun _ _ => ⟨rfl, e129, (by decide : ((0 + 1) + 1) + 0 ≤ _), (by decide : ((0 + 10) + 10) + 0 ≤ _)⟩)
    dsimp only [Pt.U, Pt.locs, Pt.cells, Pt.slots] at X181 l181 y181 z181 st181 hQ181
    rw [l181, y181, z181] at X181
    obtain ⟨rfl, Nq181, e181⟩ := hQ181
    have Np182 := Fr.app Np134 Nq181
    refine Go.via st181 ?_
    show Go p.tables e below s _ _ _ (T181.setTop (mkF m 137 #[.val (.int p1), .val (.ref b1), .val (.ref b67), .val (.int (7 : Int32)), .val (.ref s7), .unset] [(.int (own_b (s7 = s1 ∨ s7 = s2 ∨ s7 = s3 ∨ s7 = s4)))]))
    refine Go.on (fun t k => XS.istore X181.here hx rfl (hb hby at_137) rfl (l' := #[.val (.int p1), .val (.ref b1), .val (.ref b67), .val (.int (7 : Int32)), .val (.ref s7), .val (.int (own_b (s7 = s1 ∨ s7 = s2 ∨ s7 = s3 ∨ s7 = s4)))]) rfl k) ?_
    show Go p.tables e below s _ _ _ (T181.setTop (mkF m 139 #[.val (.int p1), .val (.ref b1), .val (.ref b67), .val (.int (7 : Int32)), .val (.ref s7), .val (.int (own_b (s7 = s1 ∨ s7 = s2 ∨ s7 = s3 ∨ s7 = s4)))] []))
    refine Go.on (fun t k => XS.iload X181.here hx rfl (hb hby at_139) rfl k) ?_
    show Go p.tables e below s _ _ _ (T181.setTop (mkF m 141 #[.val (.int p1), .val (.ref b1), .val (.ref b67), .val (.int (7 : Int32)), .val (.ref s7), .val (.int (own_b (s7 = s1 ∨ s7 = s2 ∨ s7 = s3 ∨ s7 = s4)))] [(.int (own_b (s7 = s1 ∨ s7 = s2 ∨ s7 = s3 ∨ s7 = s4)))]))
    refine Go.on (fun t k => XS.aloadN X181.here hx rfl (hb hby at_141) rfl rfl k) ?_
    show Go p.tables e below s _ _ _ (T181.setTop (mkF m 142 #[.val (.int p1), .val (.ref b1), .val (.ref b67), .val (.int (7 : Int32)), .val (.ref s7), .val (.int (own_b (s7 = s1 ∨ s7 = s2 ∨ s7 = s3 ∨ s7 = s4)))] [(.ref b67), (.int (own_b (s7 = s1 ∨ s7 = s2 ∨ s7 = s3 ∨ s7 = s4)))]))
    refine Go.on (fun t k => XS.iloadN X181.here hx rfl (hb hby at_142) rfl k) ?_
    show Go p.tables e below s _ _ _ (T181.setTop (mkF m 143 #[.val (.int p1), .val (.ref b1), .val (.ref b67), .val (.int (7 : Int32)), .val (.ref s7), .val (.int (own_b (s7 = s1 ∨ s7 = s2 ∨ s7 = s3 ∨ s7 = s4)))] [(.int (7 : Int32)), (.ref b67), (.int (own_b (s7 = s1 ∨ s7 = s2 ∨ s7 = s3 ∨ s7 = s4)))]))
    obtain ⟨cl183, Ar183, q183, S183, M183, H183, G183⟩ := id Vb67_130
    have hin183 : ¬ ((7 : Int32) < 0 ∨ cl183.slots.size ≤ ((7 : Int32)).toNatClampNeg) := inb_of S183 ⟨by decide, by decide⟩
    have hat183 : cl183.slots[((7 : Int32)).toNatClampNeg]? = some (.int (0 : Int32)) := H183.at hin183 rfl
    refine Go.on (fun t k => X181.baloadBooleans hx (j := (7 : Int32)) (v := (.int (0 : Int32))) (by rw [e181]; exact Ar183.1) (State.isArrayOf_alike hZ.alike Ar183.2.1) Ar183.2.2 hin183 hat183 (g := (mkF m 143 #[.val (.int p1), .val (.ref b1), .val (.ref b67), .val (.int (7 : Int32)), .val (.ref s7), .val (.int (own_b (s7 = s1 ∨ s7 = s2 ∨ s7 = s3 ∨ s7 = s4)))] [(.int (7 : Int32)), (.ref b67), (.int (own_b (s7 = s1 ∨ s7 = s2 ∨ s7 = s3 ∨ s7 = s4)))])) rfl rfl (hb hby at_143) t k) ?_
    show Go p.tables e below s _ _ _ (T181.setTop (mkF m 144 #[.val (.int p1), .val (.ref b1), .val (.ref b67), .val (.int (7 : Int32)), .val (.ref s7), .val (.int (own_b (s7 = s1 ∨ s7 = s2 ∨ s7 = s3 ∨ s7 = s4)))] [(.int (0 : Int32)), (.int (own_b (s7 = s1 ∨ s7 = s2 ∨ s7 = s3 ∨ s7 = s4)))]))
    refine Go.on (fun t k => XS.icmpYes X181.here hx rfl (pc0 := 144) (pc' := 149) rfl (hb hby at_144) rfl (teq (own_bf fun q => by rcases q with q | q | q | q <;> first | exact absurd q (O_s7.ne O_s1 (by decide)) | exact absurd q (O_s7.ne O_s2 (by decide)) | exact absurd q (O_s7.ne O_s3 (by decide)) | exact absurd q (O_s7.ne O_s4 (by decide)))).1 (by decide) (by decide) k) ?_
    show Go p.tables e below s _ _ _ (T181.setTop (mkF m 149 #[.val (.int p1), .val (.ref b1), .val (.ref b67), .val (.int (7 : Int32)), .val (.ref s7), .val (.int (own_b (s7 = s1 ∨ s7 = s2 ∨ s7 = s3 ∨ s7 = s4)))] []))
    refine Go.on (fun t k => XS.iload X181.here hx rfl (hb hby at_149) rfl k) ?_
    show Go p.tables e below s _ _ _ (T181.setTop (mkF m 151 #[.val (.int p1), .val (.ref b1), .val (.ref b67), .val (.int (7 : Int32)), .val (.ref s7), .val (.int (own_b (s7 = s1 ∨ s7 = s2 ∨ s7 = s3 ∨ s7 = s4)))] [(.int (own_b (s7 = s1 ∨ s7 = s2 ∨ s7 = s3 ∨ s7 = s4)))]))
    refine Go.on (fun t k => XS.ifYes X181.here hx rfl (pc0 := 151) (pc' := 164) rfl (hb hby at_151) rfl ((if0 _ _).trans (teq (own_bf fun q => by rcases q with q | q | q | q <;> first | exact absurd q (O_s7.ne O_s1 (by decide)) | exact absurd q (O_s7.ne O_s2 (by decide)) | exact absurd q (O_s7.ne O_s3 (by decide)) | exact absurd q (O_s7.ne O_s4 (by decide)))).1) (by decide) (by decide) k) ?_
    show Go p.tables e below s _ _ _ (T181.setTop (mkF m 164 #[.val (.int p1), .val (.ref b1), .val (.ref b67), .val (.int (7 : Int32)), .val (.ref s7), .val (.int (own_b (s7 = s1 ∨ s7 = s2 ∨ s7 = s3 ∨ s7 = s4)))] []))
    refine Go.on (fun t k => XS.iconst X181.here hx rfl (hb hby at_164) k) ?_
    show Go p.tables e below s _ _ _ (T181.setTop (mkF m 165 #[.val (.int p1), .val (.ref b1), .val (.ref b67), .val (.int (7 : Int32)), .val (.ref s7), .val (.int (own_b (s7 = s1 ∨ s7 = s2 ∨ s7 = s3 ∨ s7 = s4)))] [(.int (1 : Int32))]))
    refine Go.retN X181 hx hlk (t := .boolean) Bd.returns (by simp) (hb hby at_165) (by decide) (by decide) e181 ?_
    exact ⟨rfl, Np182⟩
  · rw [hs135]
    refine Go.on (fun t k => XS.istoreN X129.here hx rfl (hb hby at_126) rfl (l' := #[.val (.int p1), .val (.ref b1), .val (.ref b67), .val (.int (8 : Int32)), .unset, .unset]) rfl k) ?_
    show Go p.tables e below s _ _ _ (T129.setTop (mkF m 127 #[.val (.int p1), .val (.ref b1), .val (.ref b67), .val (.int (8 : Int32)), .unset, .unset] []))
    refine Go.on (fun t k => XS.aloadN X129.here hx rfl (hb hby at_127) rfl rfl k) ?_
    show Go p.tables e below s _ _ _ (T129.setTop (mkF m 128 #[.val (.int p1), .val (.ref b1), .val (.ref b67), .val (.int (8 : Int32)), .unset, .unset] [(.ref b1)]))
    refine Go.on (fun t k => XS.iloadN X129.here hx rfl (hb hby at_128) rfl k) ?_
    show Go p.tables e below s _ _ _ (T129.setTop (mkF m 129 #[.val (.int p1), .val (.ref b1), .val (.ref b67), .val (.int (8 : Int32)), .unset, .unset] [(.int (8 : Int32)), (.ref b1)]))
    obtain ⟨cl184, Ar184, q184, S184, M184, H184, G184⟩ := id Vb1_132
    have hin184 : ¬ ((8 : Int32) < 0 ∨ cl184.slots.size ≤ ((8 : Int32)).toNatClampNeg) := inb_of S184 ⟨by decide, by decide⟩
    have hat184 : cl184.slots[((8 : Int32)).toNatClampNeg]? = some (.ref s8) := H184.at hin184 rfl
    refine Go.on (fun t k => X129.aaload hx (j := (8 : Int32)) (v := (.ref s8)) (by rw [e129]; exact Ar184.1) (State.isArrayOf_alike hZ.alike Ar184.2.1) rfl Ar184.2.2 hin184 hat184 (g := (mkF m 129 #[.val (.int p1), .val (.ref b1), .val (.ref b67), .val (.int (8 : Int32)), .unset, .unset] [(.int (8 : Int32)), (.ref b1)])) rfl rfl (hb hby at_129) t k) ?_
    show Go p.tables e below s _ _ _ (T129.setTop (mkF m 130 #[.val (.int p1), .val (.ref b1), .val (.ref b67), .val (.int (8 : Int32)), .unset, .unset] [(.ref s8)]))
    refine Go.on (fun t k => XS.astore X129.here hx rfl (hb hby at_130) rfl rfl (l' := #[.val (.int p1), .val (.ref b1), .val (.ref b67), .val (.int (8 : Int32)), .val (.ref s8), .unset]) rfl k) ?_
    show Go p.tables e below s _ _ _ (T129.setTop (mkF m 132 #[.val (.int p1), .val (.ref b1), .val (.ref b67), .val (.int (8 : Int32)), .val (.ref s8), .unset] []))
    refine Go.on (fun t k => XS.aload X129.here hx rfl (hb hby at_132) rfl rfl k) ?_
    show Go p.tables e below s _ _ _ (T129.setTop (mkF m 134 #[.val (.int p1), .val (.ref b1), .val (.ref b67), .val (.int (8 : Int32)), .val (.ref s8), .unset] [(.ref s8)]))
    have Ex_185 := (E_s8.ext Old0_131.2)
    obtain ⟨cq186, kq186, q186a, q186b, q186c⟩ := isOf hZ e129 Ex_185
    obtain ⟨_, _, ⟨T186, L186, k186, n186⟩, -, X186, ⟨Lc186, hQ186, l186, y186, z186⟩, st186⟩ := X129.virtualBack hx (y := (⟨"com/example/tidewell/tidewell/model/DataType", "isNumeric", "()Z"⟩ : MethodName)) (z := (⟨"com/example/tidewell/tidewell/model/DataType", "isNumeric", "()Z"⟩ : MethodName)) hown (mvT hZ (hw _ (List.mem_of_getElem? (i := 26) rfl))) (mvT hZ (hw _ (List.mem_of_getElem? (i := 27) rfl))) (notFace_of_selects (args := #[]) (mvT hZ (hw _ (List.mem_of_getElem? (i := 29) rfl)))) (mvT hZ (hw _ (List.mem_of_getElem? (i := 29) rfl))) (mvT hZ (hw _ (List.mem_of_getElem? (i := 28) rfl))) (by decide) (backOf (W := 0) (rm1 l Z a0 hw [] s8 s1 s2 s3 s4 h129 n0 Zp133 (Sta_INT32.ext Old0_131.2) (Sta_INT64.ext Old0_131.2) (Sta_FLOAT.ext Old0_131.2) (Sta_DOUBLE.ext Old0_131.2)) hZ (hw _ (List.mem_of_getElem? (i := 30) rfl)) (hw _ (List.mem_of_getElem? (i := 3) rfl)) (by decide) (by decide)) q186a q186c (g := (mkF m 134 #[.val (.int p1), .val (.ref b1), .val (.ref b67), .val (.int (8 : Int32)), .val (.ref s8), .unset] [(.ref s8)])) rfl (by rw [hml]; rfl) (Steps.refl _) (argsL := []) (rest := []) (lenOf pd__40__41_Z rfl) rfl (by show 2 * 0 + _ ≤ _; exact Nat.le_of_eq rfl) (hb hby at_134) (fun _ _ => ⟨rfl, e129, (by decide : ((0 + 1) + 1) + 0 ≤ _), (by decide : ((0 + 10) + 10) + 0 ≤ _)⟩)
    dsimp only [Pt.U, Pt.locs, Pt.cells, Pt.slots] at X186 l186 y186 z186 st186 hQ186
    rw [l186, y186, z186] at X186
    obtain ⟨rfl, Nq186, e186⟩ := hQ186
    have Np187 := Fr.app Np134 Nq186
    refine Go.via st186 ?_
    show Go p.tables e below s _ _ _ (T186.setTop (mkF m 137 #[.val (.int p1), .val (.ref b1), .val (.ref b67), .val (.int (8 : Int32)), .val (.ref s8), .unset] [(.int (own_b (s8 = s1 ∨ s8 = s2 ∨ s8 = s3 ∨ s8 = s4)))]))
    refine Go.on (fun t k => XS.istore X186.here hx rfl (hb hby at_137) rfl (l' := #[.val (.int p1), .val (.ref b1), .val (.ref b67), .val (.int (8 : Int32)), .val (.ref s8), .val (.int (own_b (s8 = s1 ∨ s8 = s2 ∨ s8 = s3 ∨ s8 = s4)))]) rfl k) ?_
    show Go p.tables e below s _ _ _ (T186.setTop (mkF m 139 #[.val (.int p1), .val (.ref b1), .val (.ref b67), .val (.int (8 : Int32)), .val (.ref s8), .val (.int (own_b (s8 = s1 ∨ s8 = s2 ∨ s8 = s3 ∨ s8 = s4)))] []))
    refine Go.on (fun t k => XS.iload X186.here hx rfl (hb hby at_139) rfl k) ?_
    show Go p.tables e below s _ _ _ (T186.setTop (mkF m 141 #[.val (.int p1), .val (.ref b1), .val (.ref b67), .val (.int (8 : Int32)), .val (.ref s8), .val (.int (own_b (s8 = s1 ∨ s8 = s2 ∨ s8 = s3 ∨ s8 = s4)))] [(.int (own_b (s8 = s1 ∨ s8 = s2 ∨ s8 = s3 ∨ s8 = s4)))]))
    refine Go.on (fun t k => XS.aloadN X186.here hx rfl (hb hby at_141) rfl rfl k) ?_
    show Go p.tables e below s _ _ _ (T186.setTop (mkF m 142 #[.val (.int p1), .val (.ref b1), .val (.ref b67), .val (.int (8 : Int32)), .val (.ref s8), .val (.int (own_b (s8 = s1 ∨ s8 = s2 ∨ s8 = s3 ∨ s8 = s4)))] [(.ref b67), (.int (own_b (s8 = s1 ∨ s8 = s2 ∨ s8 = s3 ∨ s8 = s4)))]))
    refine Go.on (fun t k => XS.iloadN X186.here hx rfl (hb hby at_142) rfl k) ?_
    show Go p.tables e below s _ _ _ (T186.setTop (mkF m 143 #[.val (.int p1), .val (.ref b1), .val (.ref b67), .val (.int (8 : Int32)), .val (.ref s8), .val (.int (own_b (s8 = s1 ∨ s8 = s2 ∨ s8 = s3 ∨ s8 = s4)))] [(.int (8 : Int32)), (.ref b67), (.int (own_b (s8 = s1 ∨ s8 = s2 ∨ s8 = s3 ∨ s8 = s4)))]))
    obtain ⟨cl188, Ar188, q188, S188, M188, H188, G188⟩ := id Vb67_130
    have hin188 : ¬ ((8 : Int32) < 0 ∨ cl188.slots.size ≤ ((8 : Int32)).toNatClampNeg) := inb_of S188 ⟨by decide, by decide⟩
    have hat188 : cl188.slots[((8 : Int32)).toNatClampNeg]? = some (.int (0 : Int32)) := H188.at hin188 rfl
    refine Go.on (fun t k => X186.baloadBooleans hx (j := (8 : Int32)) (v := (.int (0 : Int32))) (by rw [e186]; exact Ar188.1) (State.isArrayOf_alike hZ.alike Ar188.2.1) Ar188.2.2 hin188 hat188 (g := (mkF m 143 #[.val (.int p1), .val (.ref b1), .val (.ref b67), .val (.int (8 : Int32)), .val (.ref s8), .val (.int (own_b (s8 = s1 ∨ s8 = s2 ∨ s8 = s3 ∨ s8 = s4)))] [(.int (8 : Int32)), (.ref b67), (.int (own_b (s8 = s1 ∨ s8 = s2 ∨ s8 = s3 ∨ s8 = s4)))])) rfl rfl (hb hby at_143) t k) ?_
    show Go p.tables e below s _ _ _ (T186.setTop (mkF m 144 #[.val (.int p1), .val (.ref b1), .val (.ref b67), .val (.int (8 : Int32)), .val (.ref s8), .val (.int (own_b (s8 = s1 ∨ s8 = s2 ∨ s8 = s3 ∨ s8 = s4)))] [(.int (0 : Int32)), (.int (own_b (s8 = s1 ∨ s8 = s2 ∨ s8 = s3 ∨ s8 = s4)))]))
    refine Go.on (fun t k => XS.icmpYes X186.here hx rfl (pc0 := 144) (pc' := 149) rfl (hb hby at_144) rfl (teq (own_bf fun q => by rcases q with q | q | q | q <;> first | exact absurd q (O_s8.ne O_s1 (by decide)) | exact absurd q (O_s8.ne O_s2 (by decide)) | exact absurd q (O_s8.ne O_s3 (by decide)) | exact absurd q (O_s8.ne O_s4 (by decide)))).1 (by decide) (by decide) k) ?_
    show Go p.tables e below s _ _ _ (T186.setTop (mkF m 149 #[.val (.int p1), .val (.ref b1), .val (.ref b67), .val (.int (8 : Int32)), .val (.ref s8), .val (.int (own_b (s8 = s1 ∨ s8 = s2 ∨ s8 = s3 ∨ s8 = s4)))] []))
    refine Go.on (fun t k => XS.iload X186.here hx rfl (hb hby at_149) rfl k) ?_
    show Go p.tables e below s _ _ _ (T186.setTop (mkF m 151 #[.val (.int p1), .val (.ref b1), .val (.ref b67), .val (.int (8 : Int32)), .val (.ref s8), .val (.int (own_b (s8 = s1 ∨ s8 = s2 ∨ s8 = s3 ∨ s8 = s4)))] [(.int (own_b (s8 = s1 ∨ s8 = s2 ∨ s8 = s3 ∨ s8 = s4)))]))
    refine Go.on (fun t k => XS.ifYes X186.here hx rfl (pc0 := 151) (pc' := 164) rfl (hb hby at_151) rfl ((if0 _ _).trans (teq (own_bf fun q => by rcases q with q | q | q | q <;> first | exact absurd q (O_s8.ne O_s1 (by decide)) | exact absurd q (O_s8.ne O_s2 (by decide)) | exact absurd q (O_s8.ne O_s3 (by decide)) | exact absurd q (O_s8.ne O_s4 (by decide)))).1) (by decide) (by decide) k) ?_
    show Go p.tables e below s _ _ _ (T186.setTop (mkF m 164 #[.val (.int p1), .val (.ref b1), .val (.ref b67), .val (.int (8 : Int32)), .val (.ref s8), .val (.int (own_b (s8 = s1 ∨ s8 = s2 ∨ s8 = s3 ∨ s8 = s4)))] []))
    refine Go.on (fun t k => XS.iconst X186.here hx rfl (hb hby at_164) k) ?_
    show Go p.tables e below s _ _ _ (T186.setTop (mkF m 165 #[.val (.int p1), .val (.ref b1), .val (.ref b67), .val (.int (8 : Int32)), .val (.ref s8), .val (.int (own_b (s8 = s1 ∨ s8 = s2 ∨ s8 = s3 ∨ s8 = s4)))] [(.int (1 : Int32))]))
    refine Go.retN X186 hx hlk (t := .boolean) Bd.returns (by simp) (hb hby at_165) (by decide) (by decide) e186 ?_
    exact ⟨rfl, Np187⟩
  · rw [hs135]
    refine Go.on (fun t k => XS.istoreN X129.here hx rfl (hb hby at_126) rfl (l' := #[.val (.int p1), .val (.ref b1), .val (.ref b67), .val (.int (9 : Int32)), .unset, .unset]) rfl k) ?_
    show Go p.tables e below s _ _ _ (T129.setTop (mkF m 127 #[.val (.int p1), .val (.ref b1), .val (.ref b67), .val (.int (9 : Int32)), .unset, .unset] []))
    refine Go.on (fun t k => XS.aloadN X129.here hx rfl (hb hby at_127) rfl rfl k) ?_
    show Go p.tables e below s _ _ _ (T129.setTop (mkF m 128 #[.val (.int p1), .val (.ref b1), .val (.ref b67), .val (.int (9 : Int32)), .unset, .unset] [(.ref b1)]))
    refine Go.on (fun t k => XS.iloadN X129.here hx rfl (hb hby at_128) rfl k) ?_
    show Go p.tables e below s _ _ _ (T129.setTop (mkF m 129 #[.val (.int p1), .val (.ref b1), .val (.ref b67), .val (.int (9 : Int32)), .unset, .unset] [(.int (9 : Int32)), (.ref b1)]))
    obtain ⟨cl189, Ar189, q189, S189, M189, H189, G189⟩ := id Vb1_132
    have hin189 : ¬ ((9 : Int32) < 0 ∨ cl189.slots.size ≤ ((9 : Int32)).toNatClampNeg) := inb_of S189 ⟨by decide, by decide⟩
    have hat189 : cl189.slots[((9 : Int32)).toNatClampNeg]? = some (.ref s9) := H189.at hin189 rfl
    refine Go.on (fun t k => X129.aaload hx (j := (9 : Int32)) (v := (.ref s9)) (by rw [e129]; exact Ar189.1) (State.isArrayOf_alike hZ.alike Ar189.2.1) rfl Ar189.2.2 hin189 hat189 (g := (mkF m 129 #[.val (.int p1), .val (.ref b1), .val (.ref b67), .val (.int (9 : Int32)), .unset, .unset] [(.int (9 : Int32)), (.ref b1)])) rfl rfl (hb hby at_129) t k) ?_
    show Go p.tables e below s _ _ _ (T129.setTop (mkF m 130 #[.val (.int p1), .val (.ref b1), .val (.ref b67), .val (.int (9 : Int32)), .unset, .unset] [(.ref s9)]))
    refine Go.on (fun t k => XS.astore X129.here hx rfl (hb hby at_130) rfl rfl (l' := #[.val (.int p1), .val (.ref b1), .val (.ref b67), .val (.int (9 : Int32)), .val (.ref s9), .unset]) rfl k) ?_
    show Go p.tables e below s _ _ _ (T129.setTop (mkF m 132 #[.val (.int p1), .val (.ref b1), .val (.ref b67), .val (.int (9 : Int32)), .val (.ref s9), .unset] []))
    refine Go.on (fun t k => XS.aload X129.here hx rfl (hb hby at_132) rfl rfl k) ?_
    show Go p.tables e below s _ _ _ (T129.setTop (mkF m 134 #[.val (.int p1), .val (.ref b1), .val (.ref b67), .val (.int (9 : Int32)), .val (.ref s9), .unset] [(.ref s9)]))
    have Ex_190 := (E_s9.ext Old0_131.2)
    obtain ⟨cq191, kq191, q191a, q191b, q191c⟩ := isOf hZ e129 Ex_190
    obtain ⟨_, _, ⟨T191, L191, k191, n191⟩, -, X191, ⟨Lc191, hQ191, l191, y191, z191⟩, st191⟩ := X129.virtualBack hx (y := (⟨"com/example/tidewell/tidewell/model/DataType", "isNumeric", "()Z"⟩ : MethodName)) (z := (⟨"com/example/tidewell/tidewell/model/DataType", "isNumeric", "()Z"⟩ : MethodName)) hown (mvT hZ (hw _ (List.mem_of_getElem? (i := 26) rfl))) (mvT hZ (hw _ (List.mem_of_getElem? (i := 27) rfl))) (notFace_of_selects (args := #[]) (mvT hZ (hw _ (List.mem_of_getElem? (i := 29) rfl)))) (mvT hZ (hw _ (List.mem_of_getElem? (i := 29) rfl))) (mvT hZ (hw _ (List.mem_of_getElem? (i := 28) rfl))) (by decide) (backOf (W := 0) (rm1 l Z a0 hw [] s9 s1 s2 s3 s4 h129 n0 Zp133 (Sta_INT32.ext Old0_131.2) (Sta_INT64.ext Old0_131.2) (Sta_FLOAT.ext Old0_131.2) (Sta_DOUBLE.ext Old0_131.2)) hZ (hw _ (List.mem_of_getElem? (i := 30) rfl)) (hw _ (List.mem_of_getElem? (i := 3) rfl)) (by decide) (by decide)) q191a q191c (g := (mkF m 134 #[.val (.int p1), .val (.ref b1), .val (.ref b67), .val (.int (9 : Int32)), .val (.ref s9), .unset] [(.ref s9)])) rfl (by rw [hml]; rfl) (Steps.refl _) (argsL := []) (rest := []) (lenOf pd__40__41_Z rfl) rfl (by show 2 * 0 + _ ≤ _; exact Nat.le_of_eq rfl) (hb hby at_134) (fun _ _ => ⟨rfl, e129, (by decide : ((0 + 1) + 1) + 0 ≤ _), (by decide : ((0 + 10) + 10) + 0 ≤ _)⟩)
    dsimp only [Pt.U, Pt.locs, Pt.cells, Pt.slots] at X191 l191 y191 z191 st191 hQ191
    rw [l191, y191, z191] at X191
    obtain ⟨rfl, Nq191, e191⟩ := hQ191
    have Np192 := Fr.app Np134 Nq191
    refine Go.via st191 ?_
    show Go p.tables e below s _ _ _ (T191.setTop (mkF m 137 #[.val (.int p1), .val (.ref b1), .val (.ref b67), .val (.int (9 : Int32)), .val (.ref s9), .unset] [(.int (own_b (s9 = s1 ∨ s9 = s2 ∨ s9 = s3 ∨ s9 = s4)))]))
    refine Go.on (fun t k => XS.istore X191.here hx rfl (hb hby at_137) rfl (l' := #[.val (.int p1), .val (.ref b1), .val (.ref b67), .val (.int (9 : Int32)), .val (.ref s9), .val (.int (own_b (s9 = s1 ∨ s9 = s2 ∨ s9 = s3 ∨ s9 = s4)))]) rfl k) ?_
    show Go p.tables e below s _ _ _ (T191.setTop (mkF m 139 #[.val (.int p1), .val (.ref b1), .val (.ref b67), .val (.int (9 : Int32)), .val (.ref s9), .val (.int (own_b (s9 = s1 ∨ s9 = s2 ∨ s9 = s3 ∨ s9 = s4)))] []))
    refine Go.on (fun t k => XS.iload X191.here hx rfl (hb hby at_139) rfl k) ?_
    show Go p.tables e below s _ _ _ (T191.setTop (mkF m 141 #[.val (.int p1), .val (.ref b1), .val (.ref b67), .val (.int (9 : Int32)), .val (.ref s9), .val (.int (own_b (s9 = s1 ∨ s9 = s2 ∨ s9 = s3 ∨ s9 = s4)))] [(.int (own_b (s9 = s1 ∨ s9 = s2 ∨ s9 = s3 ∨ s9 = s4)))]))
    refine Go.on (fun t k => XS.aloadN X191.here hx rfl (hb hby at_141) rfl rfl k) ?_
    show Go p.tables e below s _ _ _ (T191.setTop (mkF m 142 #[.val (.int p1), .val (.ref b1), .val (.ref b67), .val (.int (9 : Int32)), .val (.ref s9), .val (.int (own_b (s9 = s1 ∨ s9 = s2 ∨ s9 = s3 ∨ s9 = s4)))] [(.ref b67), (.int (own_b (s9 = s1 ∨ s9 = s2 ∨ s9 = s3 ∨ s9 = s4)))]))
    refine Go.on (fun t k => XS.iloadN X191.here hx rfl (hb hby at_142) rfl k) ?_
    show Go p.tables e below s _ _ _ (T191.setTop (mkF m 143 #[.val (.int p1), .val (.ref b1), .val (.ref b67), .val (.int (9 : Int32)), .val (.ref s9), .val (.int (own_b (s9 = s1 ∨ s9 = s2 ∨ s9 = s3 ∨ s9 = s4)))] [(.int (9 : Int32)), (.ref b67), (.int (own_b (s9 = s1 ∨ s9 = s2 ∨ s9 = s3 ∨ s9 = s4)))]))
    obtain ⟨cl193, Ar193, q193, S193, M193, H193, G193⟩ := id Vb67_130
    have hin193 : ¬ ((9 : Int32) < 0 ∨ cl193.slots.size ≤ ((9 : Int32)).toNatClampNeg) := inb_of S193 ⟨by decide, by decide⟩
    have hat193 : cl193.slots[((9 : Int32)).toNatClampNeg]? = some (.int (0 : Int32)) := H193.at hin193 rfl
    refine Go.on (fun t k => X191.baloadBooleans hx (j := (9 : Int32)) (v := (.int (0 : Int32))) (by rw [e191]; exact Ar193.1) (State.isArrayOf_alike hZ.alike Ar193.2.1) Ar193.2.2 hin193 hat193 (g := (mkF m 143 #[.val (.int p1), .val (.ref b1), .val (.ref b67), .val (.int (9 : Int32)), .val (.ref s9), .val (.int (own_b (s9 = s1 ∨ s9 = s2 ∨ s9 = s3 ∨ s9 = s4)))] [(.int (9 : Int32)), (.ref b67), (.int (own_b (s9 = s1 ∨ s9 = s2 ∨ s9 = s3 ∨ s9 = s4)))])) rfl rfl (hb hby at_143) t k) ?_
    show Go p.tables e below s _ _ _ (T191.setTop (mkF m 144 #[.val (.int p1), .val (.ref b1), .val (.ref b67), .val (.int (9 : Int32)), .val (.ref s9), .val (.int (own_b (s9 = s1 ∨ s9 = s2 ∨ s9 = s3 ∨ s9 = s4)))] [(.int (0 : Int32)), (.int (own_b (s9 = s1 ∨ s9 = s2 ∨ s9 = s3 ∨ s9 = s4)))]))
    refine Go.on (fun t k => XS.icmpYes X191.here hx rfl (pc0 := 144) (pc' := 149) rfl (hb hby at_144) rfl (teq (own_bf fun q => by rcases q with q | q | q | q <;> first | exact absurd q (O_s9.ne O_s1 (by decide)) | exact absurd q (O_s9.ne O_s2 (by decide)) | exact absurd q (O_s9.ne O_s3 (by decide)) | exact absurd q (O_s9.ne O_s4 (by decide)))).1 (by decide) (by decide) k) ?_
    show Go p.tables e below s _ _ _ (T191.setTop (mkF m 149 #[.val (.int p1), .val (.ref b1), .val (.ref b67), .val (.int (9 : Int32)), .val (.ref s9), .val (.int (own_b (s9 = s1 ∨ s9 = s2 ∨ s9 = s3 ∨ s9 = s4)))] []))
    refine Go.on (fun t k => XS.iload X191.here hx rfl (hb hby at_149) rfl k) ?_
    show Go p.tables e below s _ _ _ (T191.setTop (mkF m 151 #[.val (.int p1), .val (.ref b1), .val (.ref b67), .val (.int (9 : Int32)), .val (.ref s9), .val (.int (own_b (s9 = s1 ∨ s9 = s2 ∨ s9 = s3 ∨ s9 = s4)))] [(.int (own_b (s9 = s1 ∨ s9 = s2 ∨ s9 = s3 ∨ s9 = s4)))]))
    refine Go.on (fun t k => XS.ifYes X191.here hx rfl (pc0 := 151) (pc' := 164) rfl (hb hby at_151) rfl ((if0 _ _).trans (teq (own_bf fun q => by rcases q with q | q | q | q <;> first | exact absurd q (O_s9.ne O_s1 (by decide)) | exact absurd q (O_s9.ne O_s2 (by decide)) | exact absurd q (O_s9.ne O_s3 (by decide)) | exact absurd q (O_s9.ne O_s4 (by decide)))).1) (by decide) (by decide) k) ?_
    show Go p.tables e below s _ _ _ (T191.setTop (mkF m 164 #[.val (.int p1), .val (.ref b1), .val (.ref b67), .val (.int (9 : Int32)), .val (.ref s9), .val (.int (own_b (s9 = s1 ∨ s9 = s2 ∨ s9 = s3 ∨ s9 = s4)))] []))
    refine Go.on (fun t k => XS.iconst X191.here hx rfl (hb hby at_164) k) ?_
    show Go p.tables e below s _ _ _ (T191.setTop (mkF m 165 #[.val (.int p1), .val (.ref b1), .val (.ref b67), .val (.int (9 : Int32)), .val (.ref s9), .val (.int (own_b (s9 = s1 ∨ s9 = s2 ∨ s9 = s3 ∨ s9 = s4)))] [(.int (1 : Int32))]))
    refine Go.retN X191 hx hlk (t := .boolean) Bd.returns (by simp) (hb hby at_165) (by decide) (by decide) e191 ?_
    exact ⟨rfl, Np192⟩
set_option maxRecDepth 65536 in
set_option maxHeartbeats 40000000 in
theorem comes_1 {Post : Tables → Env → Array Value → State → Outcome → State → Prop} (hpost : ∀ tb e args s v u, (limb_1_1.after args s (.returned v) u = true ∧ limb_1_2.after args s (.returned v) u = true ∧ True) → FrameEnd s (.returned v) u (Jvm.fieldLocs frame_1_writes args s ++ Jvm.arrayLocs frame_1_arrays args s ++ Jvm.staticLocs frame_1_statics s) 16 128 → Post tb e args s (.returned v) u) :
    ArmFor flags0 classFile x code maxLocals ret World_1 tables_1 room_1 Calls_1 rest_1 Pre_1 Post := by
  intro l hfl _ _ p e ha hc hk s m args below hf hA hF happ hP
  obtain ⟨hcalls, hrest, hpre⟩ := hP
  obtain ⟨-, -, -, hnamed, -, -, -, hat⟩ := (Spec.applies_iff hf).mp happ
  obtain ⟨hg, hn⟩ := and_e (Cond.before_iff.mp (show (Jvm.Cond.and given_1 narrow_1).before args s = true from hpre))
  obtain ⟨gg1, gg2⟩ := and_e hg
  obtain ⟨w0, rfl⟩ : ∃ w0 : Value, args = #[w0] := by
    have hs : args.size = 1 := by simpa [Cond.value, given_1] using gg1
    obtain ⟨L⟩ := args
    match L, hs with
    | [w0], _ => exact ⟨w0, rfl⟩
  have hw := fun d (hd : d ∈ tables_1) => atoms_spec (ws := Jvm.Cond.code x code maxLocals ret :: tables_1) hat d (List.mem_cons_of_mem _ hd)
  have hfit : Fit s := fun {y c} hc i hi => by
    obtain ⟨ha, rfl⟩ := Array.getElem?_eq_some_iff.mp hc
    have q := List.all_eq_true.mp ((Array.all_eq_true_iff_forall_mem.mp hF) _ (Array.getElem_mem ha)) i (List.mem_range.mpr hi)
    simpa [Array.getElem?_eq_getElem hi] using q
  obtain ⟨i0, ei0⟩ := is_v gg2
  obtain rfl : w0 = (.int i0) := Option.some.inj ei0
  obtain ⟨nn1, nn2⟩ := and_e hn
  obtain ⟨nn3, nn4⟩ := and_e nn2
  obtain ⟨nn5, nn6⟩ := and_e nn4
  obtain ⟨nn7, nn8⟩ := and_e nn6
  obtain ⟨nn9, nn10⟩ := and_e nn8
  obtain ⟨nn11, nn12⟩ := and_e nn10
  obtain ⟨nn13, nn14⟩ := and_e nn12
  obtain ⟨nn15, nn16⟩ := and_e nn14
  obtain ⟨nn17, nn18⟩ := and_e nn16
  obtain ⟨nn19, nn20⟩ := and_e nn18
  obtain ⟨nn21, nn22⟩ := and_e nn20
  obtain ⟨nn23, nn24⟩ := and_e nn22
  obtain ⟨nn25, nn26⟩ := and_e nn24
  obtain ⟨nn27, nn28⟩ := and_e nn26
  obtain ⟨nn29, nn30⟩ := and_e nn28
  obtain ⟨nn31, nn32⟩ := and_e nn30
  obtain ⟨nn33, nn34⟩ := and_e nn32
  obtain ⟨nn35, nn36⟩ := and_e nn34
  obtain ⟨nn37, nn38⟩ := and_e nn36
  obtain ⟨d0, Sd0, Ed0, ev0⟩ := own_static nn1 (hw _ (List.mem_of_getElem? (i := 3) rfl)) (hw _ (List.mem_of_getElem? (i := 4) rfl))
  have Od0 := own_ord ev0 nn21
  obtain ⟨d1, Sd1, Ed1, ev1⟩ := own_static nn3 (hw _ (List.mem_of_getElem? (i := 3) rfl)) (hw _ (List.mem_of_getElem? (i := 7) rfl))
  have Od1 := own_ord ev1 nn23
  obtain ⟨d2, Sd2, Ed2, ev2⟩ := own_static nn5 (hw _ (List.mem_of_getElem? (i := 3) rfl)) (hw _ (List.mem_of_getElem? (i := 9) rfl))
  have Od2 := own_ord ev2 nn25
  obtain ⟨d3, Sd3, Ed3, ev3⟩ := own_static nn7 (hw _ (List.mem_of_getElem? (i := 3) rfl)) (hw _ (List.mem_of_getElem? (i := 11) rfl))
  have Od3 := own_ord ev3 nn27
  obtain ⟨d4, Sd4, Ed4, ev4⟩ := own_static nn9 (hw _ (List.mem_of_getElem? (i := 3) rfl)) (hw _ (List.mem_of_getElem? (i := 13) rfl))
  have Od4 := own_ord ev4 nn29
  obtain ⟨d5, Sd5, Ed5, ev5⟩ := own_static nn11 (hw _ (List.mem_of_getElem? (i := 3) rfl)) (hw _ (List.mem_of_getElem? (i := 15) rfl))
  have Od5 := own_ord ev5 nn31
  obtain ⟨d6, Sd6, Ed6, ev6⟩ := own_static nn13 (hw _ (List.mem_of_getElem? (i := 3) rfl)) (hw _ (List.mem_of_getElem? (i := 17) rfl))
  have Od6 := own_ord ev6 nn33
  obtain ⟨d7, Sd7, Ed7, ev7⟩ := own_static nn15 (hw _ (List.mem_of_getElem? (i := 3) rfl)) (hw _ (List.mem_of_getElem? (i := 19) rfl))
  have Od7 := own_ord ev7 nn35
  obtain ⟨d8, Sd8, Ed8, ev8⟩ := own_static nn17 (hw _ (List.mem_of_getElem? (i := 3) rfl)) (hw _ (List.mem_of_getElem? (i := 21) rfl))
  have Od8 := own_ord ev8 nn37
  obtain ⟨d9, Sd9, Ed9, ev9⟩ := own_static nn19 (hw _ (List.mem_of_getElem? (i := 3) rfl)) (hw _ (List.mem_of_getElem? (i := 23) rfl))
  have Od9 := own_ord ev9 nn38
  obtain ⟨n, o, h1, h2, h3, _, L, rfl, ⟨rfl, N⟩, hq⟩ := rm0 l s _ hw tables_1 i0 d0 d1 d2 d3 d4 d5 d6 d7 d8 d9 s.heap s.heap.size (Nat.le_refl _) (Old.start s) Sd0 Sd1 Sd2 Sd3 Sd4 Sd5 Sd6 Sd7 Sd8 Sd9 Ed0 Ed1 Ed2 Ed3 Ed4 Ed5 Ed6 Ed7 Ed8 Ed9 Od0 Od1 Od2 Od3 Od4 Od5 Od6 Od7 Od8 Od9 p e ha hc hk s m _ below hf ((Spec.applies_iff_loose hf).mp happ).1 ⟨rfl, State.Warmed39.refl s, rfl⟩ trivial
  refine ⟨n, _, h1, h2, h3, hpost _ _ _ _ _ _ ⟨Cond.after_iff.mpr rfl, Cond.after_iff.mpr (eq_i res_at (Term.int_eval (1)) rfl), trivial⟩ ⟨hq.1, hq.2.1, (hq.2.2.sift fun y hy => Or.inr (N y hy)).mono (by decide) (by decide)⟩⟩
theorem main_1_1 : Claimed_1_1 := comes_1 fun _ _ _ _ _ _ h hF => ⟨h.1, hF⟩
theorem main_1_2 : Claimed_1_2 := comes_1 fun _ _ _ _ _ _ h hF => ⟨h.2.1, hF⟩
end Jvm.Pilot.@@N@@
namespace Jvm.Pilot.@@N@@
open Jvm Jvm.ClassFile Sem Op Lib Jvm.Free Jvm.Stand Jvm.Pilot.@@N@@.Jvm.D
/-! MADE BY PROGRAM (witnessworld.py) out of the Statement's table words and the real class files: 15 classes; the members and pool entries that the words name. The judged class is class 1, her method 1. -/
namespace start1
open Jvm.ClassFile
def u (s : String) : CpInfo := .utf8 (stringToUtf16 s)
/-- a pool by its gaps: so many unusable entries, then the entry; so many at the end -/
def gap : Nat → List CpInfo → List CpInfo
  | 0, r => r
  | n + 1, r => .unusable :: gap n r
def poolList (es : List (Nat × CpInfo)) (last : Nat) : List CpInfo := es.foldr (fun e r => gap e.1 (e.2 :: r)) (gap last [])
def pool (es : List (Nat × CpInfo)) (last : Nat) : Array CpInfo := ⟨poolList es last⟩
def fileOf (pool : Array CpInfo) (this : Nat) (attrs : Array Attribute := #[]) (ms : Array MethodInfo := #[]) (fl : Nat := 33) (sup : Nat := 0) (ifs : Array Nat := #[]) (fds : Array FieldInfo := #[]) : ClassFile where
  minorVersion := 0
  majorVersion := 65
  constantPool := pool
  accessFlags := fl
  thisClass := this
  superClass := sup
  interfaces := ifs
  fields := fds
  methods := ms
  attributes := attrs
def plain (name : String) (sup : Option ClassId) : Class where
  name := name
  kind := .ordinary
  loader := none
  accessFlags := 33
  super := sup
  interfaces := #[]
  cf := none
  fields := #[]
  methods := #[]
  instanceTypes := #[]
  staticTypes := #[]
  resolved := #[]
  callSites := []
  init := .initialized
  statics := none
  mirror := none

def pool0 : Array CpInfo := pool [(5, u "<init>"), (0, u "()V"), (1, .class_ 10), (1, u "java/lang/Object")] 113

def k0m0 : Method := { name := "<init>", desc := "()V", sig := { parameters := [], returnType := none }, accessFlags := 1, code := none }
/-- java/lang/Object -/
def k0 : Class := { plain "java/lang/Object" none with
  accessFlags := 33
  interfaces := #[]
  cf := some (fileOf pool0 8 #[] #[{ accessFlags := 1, nameIndex := 5, descriptorIndex := 6, attributes := #[] }] 33 0 #[] #[])
  fields := #[]
  methods := #[k0m0]
  instanceTypes := #[]
  staticTypes := #[]
  resolved := Array.replicate 124 none
  statics := none }

def pool1 : Array CpInfo := pool [(2, .class_ 4), (1, u "java/lang/Object"), (0, u "<init>"), (0, u "()V"), (0, .class_ 8), (0, u "com/example/tidewell/tidewell/model/DataType"), (0, .fieldref 7 10), (0, .nameAndType 11 12), (0, u "BOOLEAN"), (0, u "Lcom/example/tidewell/tidewell/model/DataType;"), (0, .fieldref 7 14), (0, .nameAndType 15 12), (0, u "INT32"), (0, .fieldref 7 17), (0, .nameAndType 18 12), (0, u "INT64"), (0, .fieldref 7 20), (0, .nameAndType 21 12), (0, u "FLOAT"), (0, .fieldref 7 23), (0, .nameAndType 24 12), (0, u "DOUBLE"), (0, .fieldref 7 26), (0, .nameAndType 27 12), (0, u "TEXT"), (0, .fieldref 7 29), (0, .nameAndType 30 12), (0, u "STRING"), (0, .fieldref 7 32), (0, .nameAndType 33 12), (0, u "BLOB"), (0, .fieldref 7 35), (0, .nameAndType 36 12), (0, u "TIMESTAMP"), (0, .fieldref 7 38), (0, .nameAndType 39 12), (0, u "DATE"), (0, .integer 2147483647), (0, .methodref 7 42), (0, .nameAndType 43 44), (0, u "isNumeric"), (0, u "()Z"), (0, .methodref 7 46), (0, .nameAndType 47 44), (0, u "isCharacter"), (0, .class_ 49), (0, u "com/example/tidewell/tidewell/model/DataTypeIsNumericPinLaw"), (2, u "law"), (0, u "(I)Z")] 7

def k1m0 : Method := { name := "<init>", desc := "()V", sig := { parameters := [], returnType := none }, accessFlags := 1, code := none }
def k1c1 : Code := { maxStack := 4, maxLocals := 6, code := code, exceptionTable := #[], attributes := #[] }
def k1m1 : Method := { name := "law", desc := "(I)Z", sig := { parameters := [.int], returnType := some .boolean }, accessFlags := 9, code := some k1c1 }
/-- com/example/tidewell/tidewell/model/DataTypeIsNumericPinLaw -/
def k1 : Class := { plain "com/example/tidewell/tidewell/model/DataTypeIsNumericPinLaw" (some 0) with
  accessFlags := 49
  interfaces := #[]
  cf := some (fileOf pool1 48 #[] #[{ accessFlags := 1, nameIndex := 5, descriptorIndex := 6, attributes := #[] }, { accessFlags := 9, nameIndex := 52, descriptorIndex := 53, attributes := #[] }] 49 2 #[] #[])
  fields := #[]
  methods := #[k1m0, k1m1]
  instanceTypes := #[]
  staticTypes := #[]
  resolved := Array.replicate 61 none
  statics := none }

def pool2 : Array CpInfo := pool [(1, .class_ 2), (0, u "java/lang/constant/Constable"), (0, .class_ 4), (0, u "java/lang/Object")] 6

/-- java/lang/constant/Constable -/
def k2 : Class := { plain "java/lang/constant/Constable" (some 0) with
  accessFlags := 1537
  interfaces := #[]
  cf := some (fileOf pool2 1 #[] #[] 1537 3 #[] #[])
  fields := #[]
  methods := #[]
  instanceTypes := #[]
  staticTypes := #[]
  resolved := Array.replicate 11 none
  statics := none }

def pool3 : Array CpInfo := pool [(1, .class_ 2), (0, u "java/lang/Comparable"), (0, .class_ 4), (0, u "java/lang/Object")] 7

/-- java/lang/Comparable -/
def k3 : Class := { plain "java/lang/Comparable" (some 0) with
  accessFlags := 1537
  interfaces := #[]
  cf := some (fileOf pool3 1 #[] #[] 1537 3 #[] #[])
  fields := #[]
  methods := #[]
  instanceTypes := #[]
  staticTypes := #[]
  resolved := Array.replicate 12 none
  statics := none }

def pool4 : Array CpInfo := pool [(1, .class_ 2), (0, u "java/io/Serializable"), (0, .class_ 4), (0, u "java/lang/Object")] 2

/-- java/io/Serializable -/
def k4 : Class := { plain "java/io/Serializable" (some 0) with
  accessFlags := 1537
  interfaces := #[]
  cf := some (fileOf pool4 1 #[] #[] 1537 3 #[] #[])
  fields := #[]
  methods := #[]
  instanceTypes := #[]
  staticTypes := #[]
  resolved := Array.replicate 7 none
  statics := none }

def pool5 : Array CpInfo := pool [(2, .class_ 4), (1, u "java/lang/Enum"), (0, u "name"), (0, u "Ljava/lang/String;"), (2, u "ordinal"), (0, u "I"), (1, .class_ 14), (1, u "java/lang/Object"), (4, u "hash"), (86, .class_ 108), (1, u "java/lang/Enum$EnumDesc"), (2, .class_ 112), (0, u "java/lang/constant/Constable"), (0, .class_ 114), (0, u "java/lang/Comparable"), (0, .class_ 116), (0, u "java/io/Serializable")] 87

/-- java/lang/Enum -/
def k5 : Class := { plain "java/lang/Enum" (some 0) with
  accessFlags := 1057
  interfaces := #[2, 3, 4]
  cf := some (fileOf pool5 2 #[.nestMembers #[106]] #[] 1057 12 #[111, 113, 115] #[{ accessFlags := 18, nameIndex := 5, descriptorIndex := 6, attributes := #[] }, { accessFlags := 18, nameIndex := 9, descriptorIndex := 10, attributes := #[] }, { accessFlags := 2, nameIndex := 19, descriptorIndex := 10, attributes := #[] }])
  fields := #[{ name := "name", type := (.object "java/lang/String"), accessFlags := 18, slot := 0, constantValue := 0 }, { name := "ordinal", type := .int, accessFlags := 18, slot := 1, constantValue := 0 }, { name := "hash", type := .int, accessFlags := 2, slot := 2, constantValue := 0 }]
  methods := #[]
  instanceTypes := #[(.object "java/lang/String"), .int, .int]
  staticTypes := #[]
  resolved := Array.replicate 204 none
  statics := none }

def pool6 : Array CpInfo := pool [(1, .class_ 2), (0, u "com/example/tidewell/tidewell/model/DataType"), (2, u "BOOLEAN"), (0, u "Lcom/example/tidewell/tidewell/model/DataType;"), (0, .fieldref 1 8), (0, .nameAndType 9 6), (0, u "INT32"), (0, .fieldref 1 11), (0, .nameAndType 12 6), (0, u "INT64"), (0, .fieldref 1 14), (0, .nameAndType 15 6), (0, u "FLOAT"), (0, .fieldref 1 17), (0, .nameAndType 18 6), (0, u "DOUBLE"), (0, .fieldref 1 20), (0, .nameAndType 21 6), (0, u "TEXT"), (0, .fieldref 1 23), (0, .nameAndType 24 6), (0, u "STRING"), (2, u "BLOB"), (2, u "TIMESTAMP"), (2, u "DATE"), (2, u "$VALUES"), (0, u "[Lcom/example/tidewell/tidewell/model/DataType;"), (6, .class_ 46), (1, u "java/lang/Enum"), (8, u "javaClass"), (0, u "Ljava/lang/Class;"), (59, u "isNumeric"), (0, u "()Z"), (0, u "isCharacter")] 5

def k6c0 : Code := { maxStack := 2, maxLocals := 1, code := prog_132_method_6_code, exceptionTable := #[], attributes := #[] }
def k6m0 : Method := { name := "isNumeric", desc := "()Z", sig := { parameters := [], returnType := some .boolean }, accessFlags := 1, code := some k6c0 }
def k6c1 : Code := { maxStack := 2, maxLocals := 1, code := prog_132_method_7_code, exceptionTable := #[], attributes := #[] }
def k6m1 : Method := { name := "isCharacter", desc := "()Z", sig := { parameters := [], returnType := some .boolean }, accessFlags := 1, code := some k6c1 }
/-- com/example/tidewell/tidewell/model/DataType -/
def k6 : Class := { plain "com/example/tidewell/tidewell/model/DataType" (some 5) with
  accessFlags := 16433
  interfaces := #[]
  cf := some (fileOf pool6 1 #[] #[{ accessFlags := 1, nameIndex := 116, descriptorIndex := 117, attributes := #[] }, { accessFlags := 1, nameIndex := 118, descriptorIndex := 117, attributes := #[] }] 16433 44 #[] #[{ accessFlags := 16409, nameIndex := 5, descriptorIndex := 6, attributes := #[] }, { accessFlags := 16409, nameIndex := 9, descriptorIndex := 6, attributes := #[] }, { accessFlags := 16409, nameIndex := 12, descriptorIndex := 6, attributes := #[] }, { accessFlags := 16409, nameIndex := 15, descriptorIndex := 6, attributes := #[] }, { accessFlags := 16409, nameIndex := 18, descriptorIndex := 6, attributes := #[] }, { accessFlags := 16409, nameIndex := 21, descriptorIndex := 6, attributes := #[] }, { accessFlags := 16409, nameIndex := 24, descriptorIndex := 6, attributes := #[] }, { accessFlags := 16409, nameIndex := 27, descriptorIndex := 6, attributes := #[] }, { accessFlags := 16409, nameIndex := 30, descriptorIndex := 6, attributes := #[] }, { accessFlags := 16409, nameIndex := 33, descriptorIndex := 6, attributes := #[] }, { accessFlags := 18, nameIndex := 55, descriptorIndex := 56, attributes := #[] }, { accessFlags := 4122, nameIndex := 36, descriptorIndex := 37, attributes := #[] }])
  fields := #[{ name := "BOOLEAN", type := (.object "com/example/tidewell/tidewell/model/DataType"), accessFlags := 16409, slot := 0, constantValue := 0 }, { name := "INT32", type := (.object "com/example/tidewell/tidewell/model/DataType"), accessFlags := 16409, slot := 1, constantValue := 0 }, { name := "INT64", type := (.object "com/example/tidewell/tidewell/model/DataType"), accessFlags := 16409, slot := 2, constantValue := 0 }, { name := "FLOAT", type := (.object "com/example/tidewell/tidewell/model/DataType"), accessFlags := 16409, slot := 3, constantValue := 0 }, { name := "DOUBLE", type := (.object "com/example/tidewell/tidewell/model/DataType"), accessFlags := 16409, slot := 4, constantValue := 0 }, { name := "TEXT", type := (.object "com/example/tidewell/tidewell/model/DataType"), accessFlags := 16409, slot := 5, constantValue := 0 }, { name := "STRING", type := (.object "com/example/tidewell/tidewell/model/DataType"), accessFlags := 16409, slot := 6, constantValue := 0 }, { name := "BLOB", type := (.object "com/example/tidewell/tidewell/model/DataType"), accessFlags := 16409, slot := 7, constantValue := 0 }, { name := "TIMESTAMP", type := (.object "com/example/tidewell/tidewell/model/DataType"), accessFlags := 16409, slot := 8, constantValue := 0 }, { name := "DATE", type := (.object "com/example/tidewell/tidewell/model/DataType"), accessFlags := 16409, slot := 9, constantValue := 0 }, { name := "javaClass", type := (.object "java/lang/Class"), accessFlags := 18, slot := 3, constantValue := 0 }, { name := "$VALUES", type := (.array (.object "com/example/tidewell/tidewell/model/DataType")), accessFlags := 4122, slot := 10, constantValue := 0 }]
  methods := #[k6m0, k6m1]
  instanceTypes := #[(.object "java/lang/String"), .int, .int, (.object "java/lang/Class")]
  staticTypes := #[(.object "com/example/tidewell/tidewell/model/DataType"), (.object "com/example/tidewell/tidewell/model/DataType"), (.object "com/example/tidewell/tidewell/model/DataType"), (.object "com/example/tidewell/tidewell/model/DataType"), (.object "com/example/tidewell/tidewell/model/DataType"), (.object "com/example/tidewell/tidewell/model/DataType"), (.object "com/example/tidewell/tidewell/model/DataType"), (.object "com/example/tidewell/tidewell/model/DataType"), (.object "com/example/tidewell/tidewell/model/DataType"), (.object "com/example/tidewell/tidewell/model/DataType"), (.array (.object "com/example/tidewell/tidewell/model/DataType"))]
  resolved := Array.replicate 124 none
  statics := some 0 }

def pool7 : Array CpInfo := pool [(1, u "java/lang/Cloneable"), (0, .class_ 1), (0, u "java/lang/Object"), (0, .class_ 3)] 3

/-- java/lang/Cloneable -/
def k7 : Class := { plain "java/lang/Cloneable" (some 0) with
  accessFlags := 1537
  interfaces := #[]
  cf := some (fileOf pool7 2 #[] #[] 1537 4 #[] #[])
  fields := #[]
  methods := #[]
  instanceTypes := #[]
  staticTypes := #[]
  resolved := Array.replicate 8 none
  statics := none }

/-- the primitive boolean -/
def k8 : Class := { plain "boolean" none with kind := .primitive 'Z', accessFlags := 0x411 }
/-- [Z -/
def k9 : Class := { plain "[Z" (some 0) with kind := .array 8 .boolean, interfaces := #[7, 4], accessFlags := 1041 }

/-- the primitive byte -/
def k10 : Class := { plain "byte" none with kind := .primitive 'B', accessFlags := 0x411 }
/-- [B -/
def k11 : Class := { plain "[B" (some 0) with kind := .array 10 .byte, interfaces := #[7, 4], accessFlags := 1041 }

/-- the primitive int -/
def k12 : Class := { plain "int" none with kind := .primitive 'I', accessFlags := 0x411 }
/-- [I -/
def k13 : Class := { plain "[I" (some 0) with kind := .array 12 .int, interfaces := #[7, 4], accessFlags := 1041 }

/-- [Lcom/example/tidewell/tidewell/model/DataType; -/
def k14 : Class := { plain "[Lcom/example/tidewell/tidewell/model/DataType;" (some 0) with kind := .array 6 (.object "com/example/tidewell/tidewell/model/DataType"), interfaces := #[7, 4], accessFlags := 1041 }

def heap : Heap := #[{ cls := 6, slots := #[.ref 1, .ref 2, .ref 3, .ref 4, .ref 5, .ref 6, .ref 7, .ref 8, .ref 9, .ref 10, .null], vm := .statics 6 },
  { cls := 6, slots := #[.null, .int 0, .int 0, .null], vm := .none },
  { cls := 6, slots := #[.null, .int 1, .int 0, .null], vm := .none },
  { cls := 6, slots := #[.null, .int 2, .int 0, .null], vm := .none },
  { cls := 6, slots := #[.null, .int 3, .int 0, .null], vm := .none },
  { cls := 6, slots := #[.null, .int 4, .int 0, .null], vm := .none },
  { cls := 6, slots := #[.null, .int 5, .int 0, .null], vm := .none },
  { cls := 6, slots := #[.null, .int 6, .int 0, .null], vm := .none },
  { cls := 6, slots := #[.null, .int 7, .int 0, .null], vm := .none },
  { cls := 6, slots := #[.null, .int 8, .int 0, .null], vm := .none },
  { cls := 6, slots := #[.null, .int 9, .int 0, .null], vm := .none }]
def classes : Array Class := #[k0, k1, k2, k3, k4, k5, k6, k7, k8, k9, k10, k11, k12, k13, k14]
def interned : List (Array UInt16 × Addr) := []
def slotsUsed : Nat := 51
def theMethod : MethodId := ⟨1, 1⟩
def args0 : Array Value := #[.int 5]
def aboutOver (below : List Frame) : State where
  vm := { classes := classes, interned := interned.toArray }
  heap := heap
  slotsUsed := slotsUsed
  threads := #[{ frames := .invoking theMethod args0 :: below }]
def below0 : List Frame := [.native { method := ⟨0, 0⟩, args := #[] }]
def about1 : State := aboutOver below0
def p0 : Program := .bare "" "" ""
def e0 : Env := launch0.env 0 0 0
theorem w_frames : about1.frames = Frame.invoking theMethod args0 :: below0 := rfl
set_option maxRecDepth 65536 in
theorem w_args : argsFit about1.vm theMethod args0 = true := by decide +kernel
set_option maxRecDepth 65536 in
theorem w_heap : heapFits about1 = true := by decide +kernel
set_option maxRecDepth 65536 in
theorem w_runnable : about1.curStatus? = some .runnable := by decide +kernel
set_option maxRecDepth 65536 in
theorem w_alone : about1.alone = true := by decide +kernel
set_option maxRecDepth 65536 in
theorem w_named : about1.methodNamed? x = some theMethod := by decide +kernel
set_option maxRecDepth 65536 in
theorem w_hears : about1.hears theMethod below0 = true := by decide +kernel
set_option maxRecDepth 65536 in
theorem w_ripe : about1.ripe theMethod args0 below0 = true := by decide +kernel
theorem w_running : about1.status = .running := rfl
set_option maxRecDepth 65536 in
theorem w_room : about1.hasRoom e0.platform room_1 = true :=
  launch0.hasRoom_least _ room_1 (by decide +kernel) (by decide +kernel) (by decide +kernel) (by decide +kernel) (by decide +kernel) (by decide +kernel)
theorem allAtoms_all (ts : List Jvm.Cond) (a : Array Jvm.Value) (st : Jvm.State) : (allAtoms ts).before a st = ts.all (fun c => c.before a st) := by
  induction ts with
  | nil => rfl
  | cons c t ih =>
    show (Jvm.Cond.and c (allAtoms t)).before a st = _
    rw [Jvm.Cond.before_and, ih, List.all_cons]
def words1 : List Jvm.Cond := Jvm.Cond.code x code maxLocals ret :: tables_1
/-- a 'code' word, met by the world's own term for the bytes: nothing is compared byte by byte -/
theorem code_word {y : MethodName} {bytes : ByteArray} {mx : Nat} {rt : Option FieldType} {a : Array Value} {s : State} {m : MethodId} {meth : Method} {c : Code} (h1 : s.methodNamed? y = some m) (h2 : s.vm.method? m = some meth) (h3 : meth.code = some c) (h4 : c.code = bytes)
    (h5 : (c.maxLocals == mx && c.exceptionTable.isEmpty && decide (c.maxStack ≤ mostOperands) && decide (meth.sig.returnType = rt) && !meth.locks && decide (parseMethodDescriptor y.desc = some meth.sig)) = true) : (Jvm.Cond.code y bytes mx rt).before a s = true := by
  simp only [Bool.and_eq_true, beq_iff_eq, Bool.not_eq_true', decide_eq_true_eq] at h5
  obtain ⟨⟨⟨⟨⟨g1, g2⟩, g3⟩, g4⟩, g5⟩, g6⟩ := h5
  simp [Cond.before, Cond.holds, Cond.value, h1, h2, h3, h4, g1, g2, g3, g4, g5, g6]
def isCode : Jvm.Cond → Bool
  | .code _ _ _ _ => true
  | _ => false
theorem all_split {L : List Jvm.Cond} {P : Jvm.Cond → Bool} (h1 : L.all (fun c => isCode c || P c) = true) (h2 : ∀ c ∈ L.filter isCode, P c = true) : L.all P = true := by
  refine List.all_eq_true.mpr fun c hc => ?_
  have h := List.all_eq_true.mp h1 c hc
  rcases Bool.eq_false_or_eq_true (isCode c) with hi | hi
  · exact h2 c (List.mem_filter.mpr ⟨hc, hi⟩)
  · simpa [hi] using h
set_option maxRecDepth 65536 in
theorem w_c0 : (Jvm.Cond.code x code maxLocals ret).before args0 about1 = true := code_word (m := ⟨1, 1⟩) (meth := k1m1) (c := k1c1) (by decide +kernel) rfl rfl rfl (by decide +kernel)
set_option maxRecDepth 65536 in
theorem w_c1 : (Jvm.Cond.code ({ cls := "com/example/tidewell/tidewell/model/DataType", name := "isNumeric", desc := "()Z" } : Jvm.MethodName) prog_132_method_6_code (1 : Nat) (Option.some Jvm.ClassFile.FieldType.boolean)).before args0 about1 = true := code_word (m := ⟨6, 0⟩) (meth := k6m0) (c := k6c0) (by decide +kernel) rfl rfl rfl (by decide +kernel)
set_option maxRecDepth 65536 in
theorem w_c2 : (Jvm.Cond.code ({ cls := "com/example/tidewell/tidewell/model/DataType", name := "isCharacter", desc := "()Z" } : Jvm.MethodName) prog_132_method_7_code (1 : Nat) (Option.some Jvm.ClassFile.FieldType.boolean)).before args0 about1 = true := code_word (m := ⟨6, 1⟩) (meth := k6m1) (c := k6c1) (by decide +kernel) rfl rfl rfl (by decide +kernel)
def codes1 : List Jvm.Cond := [Jvm.Cond.code x code maxLocals ret, Jvm.Cond.code ({ cls := "com/example/tidewell/tidewell/model/DataType", name := "isNumeric", desc := "()Z" } : Jvm.MethodName) prog_132_method_6_code (1 : Nat) (Option.some Jvm.ClassFile.FieldType.boolean), Jvm.Cond.code ({ cls := "com/example/tidewell/tidewell/model/DataType", name := "isCharacter", desc := "()Z" } : Jvm.MethodName) prog_132_method_7_code (1 : Nat) (Option.some Jvm.ClassFile.FieldType.boolean)]
set_option maxRecDepth 65536 in
theorem codes_eq : words1.filter isCode = codes1 := rfl
theorem w_codes : ∀ c ∈ words1.filter isCode, c.before args0 about1 = true := by
  rw [codes_eq]
  intro c hc
  simp only [codes1, List.mem_cons, List.not_mem_nil, or_false] at hc
  rcases hc with rfl | rfl | rfl
  · exact w_c0
  · exact w_c1
  · exact w_c2
set_option maxRecDepth 65536 in
theorem w_t1 : (words1.take 24).all (fun c => isCode c || c.before args0 about1) = true := by decide +kernel
set_option maxRecDepth 65536 in
theorem w_t2 : (words1.drop 24).all (fun c => isCode c || c.before args0 about1) = true := by decide +kernel
theorem w_tables : (allAtoms (Jvm.Cond.code x code maxLocals ret :: tables_1)).before args0 about1 = true := by
  rw [allAtoms_all]
  show words1.all (fun c => c.before args0 about1) = true
  refine all_split ?_ w_codes
  rw [← List.take_append_drop 24 words1, List.all_append, w_t1, w_t2]
  rfl
set_option maxRecDepth 65536 in
theorem w_case : (Jvm.Cond.and given_1 narrow_1).before args0 about1 = true := by decide +kernel
theorem w_applies : (headSpec (Jvm.Cond.code x code maxLocals ret :: tables_1) room_1).applies x e0.platform about1 = true :=
  (Spec.applies_iff w_frames).mpr ⟨w_running, w_runnable, w_alone, w_named, w_hears, w_ripe, w_room, w_tables⟩
theorem atStart : AtStart classFile x code maxLocals ret World_1 tables_1 room_1 Calls_1 rest_1 Pre_1 launch0 p0 e0 about1 theMethod args0 below0 :=
  ⟨lists_1, trivial, launch0.admits_env _ _ _, launch0.least_env, fairChoices_fair.cas, fairChoices_fair.clock, w_frames, w_args, w_heap, w_applies, trivial, trivial, w_case⟩
end start1
theorem witness_1 : WitnessClaimed_1 := ⟨start1.p0, start1.e0, start1.about1, start1.theMethod, start1.args0, start1.below0, start1.atStart⟩
end Jvm.Pilot.@@N@@
