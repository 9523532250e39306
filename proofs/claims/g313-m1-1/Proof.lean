import JvmDerived
import JvmDerived.Pilot.@@N@@Statement
import JvmDerived.Pilot.@@N@@Code
set_option linter.unusedVariables false
set_option linter.unusedSimpArgs false
namespace Jvm.RoadKit
open Sem ClassFile Op Lib Jvm.Stand Jvm.Free Jvm.LawKit
section New
variable {p : Program} {l : Launch} {e : Env} {R : Room} {s : State} {m : MethodId} {args : Array Value} {below : List Frame} {meth : Method} {c : Code} {T : State} {locs : List Loc} {cells slots : Nat}
theorem retI (X : Stand p l e R s m args below meth c T locs cells slots) (hx : p.tables.exec = Jvm.exec) {pc : Nat} {Ls : Array Slot} {z : Int32} {rest : List Value} (hret : meth.sig.returnType = some .int) (hd : decode c.code pc = .ok (.ireturn, 1)) {fs : List Frame}
    (hl : ∀ (f : JFrame) (acts : List Action), f.method = m → f.locked = none → f.entered = [] → (doReturn e (T.setTop f) acts (some (.int z))).1 = T.setFrames fs) : Steps p.tables e below (T.setTop (mkF m pc Ls (.int z :: rest))) (T.setFrames fs) := by
  have hm' : T.vm.method? m = some meth := X.method'
  have hn : narrow .int (.int z) = .int z := rfl
  show Steps p.tables e below (T.setTop { method := m, pc := pc, locals := Ls, stack := _ :: rest, locked := none }) _
  jvm_step X.here [X.here.top, hx, hd, hm', hret, hn]
  first | (intro acts; rw [hl _ acts rfl rfl rfl]) | rw [hl _ _ rfl rfl rfl]
  exact Steps.refl _
/-- from the state A the body comes to its end, and what it leaves is Q's -/
def Go (tb : Tables) (e : Env) (below : List Frame) (s : State) (Q : Option Value → Heap → List Loc → Prop) (k n : Nat) (A : State) : Prop :=
  ∃ s₂ o, Steps tb e below A s₂ ∧ s₂.status = .running ∧ Ended s₂ below o ∧ ∃ v L, o = .returned v ∧ Q v s₂.heap L ∧ FrameEnd s o s₂ L k n
theorem Go.on {tb : Tables} {Q : Option Value → Heap → List Loc → Prop} {k n : Nat} {A B : State} (h : ∀ t, Steps tb e below B t → Steps tb e below A t) (g : Go tb e below s Q k n B) : Go tb e below s Q k n A := by
  obtain ⟨s₂, o, h1, h2⟩ := g
  exact ⟨s₂, o, h _ h1, h2⟩
theorem Go.via {tb : Tables} {Q : Option Value → Heap → List Loc → Prop} {k n : Nat} {A B : State} (h : Steps tb e below A B) (g : Go tb e below s Q k n B) : Go tb e below s Q k n A := by
  obtain ⟨s₂, o, h1, h2⟩ := g
  exact ⟨s₂, o, h.trans h1, h2⟩
theorem Go.retN (X : Stand p l e R s m args below meth c T locs cells slots) (hx : p.tables.exec = Jvm.exec) (hlk : meth.locks = false) {Q : Option Value → Heap → List Loc → Prop} {k n : Nat} {pc : Nat} {Ls : Array Slot} {z : Int32} {t : FieldType} {rest : List Value} (hret : meth.sig.returnType = some t) (ht : t = .boolean ∨ t = .byte ∨ t = .char ∨ t = .short)
    (hd : decode c.code pc = .ok (.ireturn, 1)) (hk : cells ≤ k) (hn : slots ≤ n) {h : Heap} (eT : T.heap = h) (q : Q (some (.int (nar t z))) h locs) : Go p.tables e below s Q k n (T.setTop (mkF m pc Ls (.int z :: rest))) := by
  obtain ⟨fs, hr, hrun, hended, hW, hsame⟩ := X.leave (v := some (.int (nar t z))) (fun h => by rw [hret] at h; cases h) hlk
  subst eT
  exact ⟨_, _, Jvm.RoadKit.retN X hx hret ht hd hr, hrun, hended, _, _, rfl, q, ⟨_, rfl⟩, hW, hsame.mono hk hn⟩
theorem Go.retI (X : Stand p l e R s m args below meth c T locs cells slots) (hx : p.tables.exec = Jvm.exec) (hlk : meth.locks = false) {Q : Option Value → Heap → List Loc → Prop} {k n : Nat} {pc : Nat} {Ls : Array Slot} {z : Int32} {rest : List Value} (hret : meth.sig.returnType = some .int)
    (hd : decode c.code pc = .ok (.ireturn, 1)) (hk : cells ≤ k) (hn : slots ≤ n) {h : Heap} (eT : T.heap = h) (q : Q (some (.int z)) h locs) : Go p.tables e below s Q k n (T.setTop (mkF m pc Ls (.int z :: rest))) := by
  obtain ⟨fs, hr, hrun, hended, hW, hsame⟩ := X.leave (v := some (.int z)) (fun h => by rw [hret] at h; cases h) hlk
  subst eT
  exact ⟨_, _, Jvm.RoadKit.retI X hx hret hd hr, hrun, hended, _, _, rfl, q, ⟨_, rfl⟩, hW, hsame.mono hk hn⟩
theorem Go.retJ (X : Stand p l e R s m args below meth c T locs cells slots) (hx : p.tables.exec = Jvm.exec) (hlk : meth.locks = false) {Q : Option Value → Heap → List Loc → Prop} {k n : Nat} {pc : Nat} {Ls : Array Slot} {z : Int64} (hret : meth.sig.returnType = some .long)
    (hd : decode c.code pc = .ok (.lreturn, 1)) (hk : cells ≤ k) (hn : slots ≤ n) {h : Heap} (eT : T.heap = h) (q : Q (some (.long z)) h locs) : Go p.tables e below s Q k n (T.setTop (mkF m pc Ls [.long z])) := by
  obtain ⟨fs, hr, hrun, hended, hW, hsame⟩ := X.leave (v := some (.long z)) (fun h => by rw [hret] at h; cases h) hlk
  subst eT
  exact ⟨_, _, X.lreturnOut hx hret hd hr, hrun, hended, _, _, rfl, q, ⟨_, rfl⟩, hW, hsame.mono hk hn⟩
theorem Go.retA (X : Stand p l e R s m args below meth c T locs cells slots) (hx : p.tables.exec = Jvm.exec) (hlk : meth.locks = false) {Q : Option Value → Heap → List Loc → Prop} {k n : Nat} {pc : Nat} {Ls : Array Slot} {w : Value} {t : FieldType} (hw : w.isRef = true) (hret : meth.sig.returnType = some t) (ht : t.isReference = true)
    (hd : decode c.code pc = .ok (.areturn, 1)) (hk : cells ≤ k) (hn : slots ≤ n) {h : Heap} (eT : T.heap = h) (q : Q (some w) h locs) : Go p.tables e below s Q k n (T.setTop (mkF m pc Ls [w])) := by
  obtain ⟨fs, hr, hrun, hended, hW, hsame⟩ := X.leave (v := some w) (fun h => by rw [hret] at h; cases h) hlk
  subst eT
  exact ⟨_, _, X.areturnOut hx hw hret ht hd hr, hrun, hended, _, _, rfl, q, ⟨_, rfl⟩, hW, hsame.mono hk hn⟩
theorem Go.retV (X : Stand p l e R s m args below meth c T locs cells slots) (hx : p.tables.exec = Jvm.exec) (hlk : meth.locks = false) {Q : Option Value → Heap → List Loc → Prop} {k n : Nat} {pc : Nat} {Ls : Array Slot} (hret : meth.sig.returnType = none)
    (hd : decode c.code pc = .ok (.return_, 1)) (hk : cells ≤ k) (hn : slots ≤ n) {h : Heap} (eT : T.heap = h) (q : Q none h locs) : Go p.tables e below s Q k n (T.setTop (mkF m pc Ls [])) := by
  obtain ⟨fs, hr, hrun, hended, hW, hsame⟩ := X.leave (v := none) (fun _ => rfl) hlk
  subst eT
  exact ⟨_, _, X.returnOut hx hret hd hr, hrun, hended, _, _, rfl, q, ⟨_, rfl⟩, hW, hsame.mono hk hn⟩
end New
end Jvm.RoadKit
namespace Jvm.Pilot.@@N@@
open Jvm Jvm.ClassFile Sem Op Lib Jvm.Free Jvm.Stand Jvm.LawKit Jvm.RoadKit Bundle Jvm.Pilot.@@N@@.Jvm.D

def own_b (P : Prop) [Decidable P] : Int32 := if P then 1 else 0
theorem own_b0 {P : Prop} [Decidable P] (h : own_b P = 0) : ¬ P := fun q => by rw [own_b, if_pos q] at h; cases h
theorem own_b1 {P : Prop} [Decidable P] (h : ¬ own_b P = 0) : P := Decidable.byContradiction fun q => h (by rw [own_b, if_neg q])
theorem own_bt {P : Prop} [Decidable P] (h : P) : own_b P = 1 := by rw [own_b, if_pos h]
theorem own_bf {P : Prop} [Decidable P] (h : ¬ P) : own_b P = 0 := by rw [own_b, if_neg h]

theorem own_r (x : Int32) : -2147483648 ≤ x.toInt64.toInt ∧ x.toInt64.toInt < 2147483648 := by rw [c_i2l]; exact ⟨Int32.le_toInt x, Int32.toInt_lt x⟩
theorem own_53 (x : Int32) : B53 x.toInt64 := by have := own_r x; exact ⟨by omega, by omega⟩
/-- two ints as doubles compare as they do as longs -/
theorem own_dc (a b : Int32) (o : CmpOp) : cmpValue (FP.dcmp (FP.i2d a) (FP.i2d b)) o = lcmpW a.toInt64 b.toInt64 := by
  rw [i2d_w, i2d_w]; exact dcmpV_w (own_53 a) (own_53 b) o
theorem own_lo (lo v : Int32) : (¬ lcmpW (v.toInt64 - lo.toInt64) (0 : Int64) < (0 : Int32)) ↔ ¬ (0 : Int32) < lcmpW lo.toInt64 v.toInt64 := by
  rw [lw_lt, lw_gt, Int64.lt_iff_toInt_lt, Int64.lt_iff_toInt_lt]
  have h := c_lsub v.toInt64 lo.toInt64
  have h1 := own_r v
  have h2 := own_r lo
  have h3 : -9223372036854775808 ≤ (v.toInt64 - lo.toInt64).toInt ∧ (v.toInt64 - lo.toInt64).toInt < 9223372036854775808 := ⟨Int64.le_toInt _, Int64.toInt_lt _⟩
  have e0 : (0 : Int64).toInt = 0 := rfl
  rw [e0]; omega

theorem d2_0 : decode jdk_30_method_1_code 0 = .ok (.aload_n 0, 1) := by decide +kernel
theorem d2_1 : decode jdk_30_method_1_code 1 = .ok (.invokespecial 1, 3) := by decide +kernel
theorem d2_4 : decode jdk_30_method_1_code 4 = .ok (.return_, 1) := by decide +kernel
theorem pd__40_JDDDD_41_V : parseMethodDescriptor "(JDDDD)V" = some ⟨[.long, .double, .double, .double, .double], none⟩ := by decide +kernel
theorem pd__40__41_V : parseMethodDescriptor "()V" = some ⟨[], none⟩ := by decide +kernel
theorem pd__40_DD_41_Z : parseMethodDescriptor "(DD)Z" = some ⟨[.double, .double], some .boolean⟩ := by decide +kernel
theorem pd__40_III_41_Z : parseMethodDescriptor "(III)Z" = some ⟨[.int, .int, .int], some .boolean⟩ := by decide +kernel
theorem ef_2 (m : MethodId) (x0 : Addr) : entryFrame m #[(.ref x0)] 1 = mkF m 0 #[.val (.ref x0)] [] := by first | (simp [entryFrame, mkF, argsToLocals, Value.category]; done) | rfl
def Q2 (Z : State) (a1 : Addr) (h0 : Heap) (n0 : Nat) (v : Option Value) (h : Heap) (L : List Loc) : Prop := v = none ∧ Fr n0 L ∧ h = h0
theorem pn_java_lang_Record : plainName "java/lang/Record" = true := by first | (simp [plainName, overriddenIn]; done) | decide +kernel
set_option maxRecDepth 65536 in
set_option maxHeartbeats 40000000 in
theorem rm2 (l : Launch) (Z : State) (a0 : Array Value) (hw : ∀ d ∈ tables_1, d.before a0 Z = true) (ws : List Jvm.Cond) (a1 : Addr) (h0 : Heap) (n0 : Nat) (Z0 : n0 ≤ h0.size)  :
    MetFree l (⟨"java/lang/Record", "<init>", "()V"⟩ : MethodName) (head1 (Jvm.Cond.code (⟨"java/lang/Record", "<init>", "()V"⟩ : MethodName) jdk_30_method_1_code 1 none :: ws) ({ frames := 1, cells := 0, slots := 0, locals := 12 } : Room)) (fun a U => a = #[(.ref a1)] ∧ Z.Warmed39 U.vm ∧ U.heap = h0) (fun _ _ _ _ _ => True) (fun _ U o U' => ∃ v L, o = .returned v ∧ Q2 Z a1 h0 n0 v U'.heap L ∧ FrameEnd U o U' L ({ frames := 1, cells := 0, slots := 0, locals := 12 } : Room).cells ({ frames := 1, cells := 0, slots := 0, locals := 12 } : Room).slots) := by
  refine MetFree.of_bodySF (plainFor_of_name pn_java_lang_Record) hisR ?_
  intro p e s m args below meth c s₁ Bd hml0 hP hK
  obtain ⟨rfl, hZ, hh⟩ := hP
  have hx := Bd.exec
  have hby := Bd.bytes
  have hlk : meth.locks = false := BodyLoose.notSynchronized Bd
  have hml : c.maxLocals = 1 := hml0
  have hown : s.vm.findClass "java/lang/Record" = some m.cls := findClass_of_methodNamed Bd.named
  have hnm := (name_of_methodNamed Bd.named Bd.method).1
  have X0 : Stand p l e ({ frames := 1, cells := 0, slots := 0, locals := 12 } : Room) s m #[(.ref a1)] below meth c s₁ [] 0 0 := Stand.of_body Bd
  have e0 : s₁.heap = h0 := by rw [← hh, Bd.state]; rfl
  have N0 := Fr.nil n0
  show Go p.tables e below s (Q2 Z a1 h0 n0) ({ frames := 1, cells := 0, slots := 0, locals := 12 } : Room).cells ({ frames := 1, cells := 0, slots := 0, locals := 12 } : Room).slots (s₁.setTop (entryFrame m #[(.ref a1)] 1))
  refine Go.on (fun t k => castTop (ef_2 m a1) k) ?_
  show Go p.tables e below s _ _ _ (s₁.setTop (mkF m 0 #[.val (.ref a1)] []))
  refine Go.on (fun t k => XS.aloadN X0.here hx rfl (hb hby d2_0) rfl rfl k) ?_
  show Go p.tables e below s _ _ _ (s₁.setTop (mkF m 1 #[.val (.ref a1)] [(.ref a1)]))
  obtain ⟨T1, X1, e1, st1⟩ := initO X0 hx hZ hown (hw _ (List.mem_of_getElem? (i := 11) rfl)) (hw _ (List.mem_of_getElem? (i := 12) rfl)) (hw _ (List.mem_of_getElem? (i := 13) rfl)) e0 (g := (mkF m 1 #[.val (.ref a1)] [(.ref a1)])) rfl (by rw [hml]; rfl) rfl (hb hby d2_1) (by decide) (W := 0) (by show 2 * 0 + _ ≤ _; exact Nat.le_of_eq rfl) (by decide)
  refine Go.on st1 ?_
  show Go p.tables e below s _ _ _ (T1.setTop (mkF m 4 #[.val (.ref a1)] []))
  refine Go.retV X1 hx hlk Bd.returns (hb hby d2_4) (by decide) (by decide) e1 ?_
  exact ⟨rfl, N0, rfl⟩
theorem d1_0 : decode prog_63_method_1_code 0 = .ok (.aload_n 0, 1) := by decide +kernel
theorem d1_1 : decode prog_63_method_1_code 1 = .ok (.invokespecial 1, 3) := by decide +kernel
theorem d1_4 : decode prog_63_method_1_code 4 = .ok (.aload_n 0, 1) := by decide +kernel
theorem d1_5 : decode prog_63_method_1_code 5 = .ok (.lload_n 1, 1) := by decide +kernel
theorem d1_6 : decode prog_63_method_1_code 6 = .ok (.putfield 7, 3) := by decide +kernel
theorem d1_9 : decode prog_63_method_1_code 9 = .ok (.aload_n 0, 1) := by decide +kernel
theorem d1_10 : decode prog_63_method_1_code 10 = .ok (.dload_n 3, 1) := by decide +kernel
theorem d1_11 : decode prog_63_method_1_code 11 = .ok (.putfield 13, 3) := by decide +kernel
theorem d1_14 : decode prog_63_method_1_code 14 = .ok (.aload_n 0, 1) := by decide +kernel
theorem d1_15 : decode prog_63_method_1_code 15 = .ok (.dload 5, 2) := by decide +kernel
theorem d1_17 : decode prog_63_method_1_code 17 = .ok (.putfield 17, 3) := by decide +kernel
theorem d1_20 : decode prog_63_method_1_code 20 = .ok (.aload_n 0, 1) := by decide +kernel
theorem d1_21 : decode prog_63_method_1_code 21 = .ok (.dload 7, 2) := by decide +kernel
theorem d1_23 : decode prog_63_method_1_code 23 = .ok (.putfield 20, 3) := by decide +kernel
theorem d1_26 : decode prog_63_method_1_code 26 = .ok (.aload_n 0, 1) := by decide +kernel
theorem d1_27 : decode prog_63_method_1_code 27 = .ok (.dload 9, 2) := by decide +kernel
theorem d1_29 : decode prog_63_method_1_code 29 = .ok (.putfield 23, 3) := by decide +kernel
theorem d1_32 : decode prog_63_method_1_code 32 = .ok (.return_, 1) := by decide +kernel
theorem ef_1 (m : MethodId) (x0 : Addr) (x1 : Int64) (x2 : UInt64) (x3 : UInt64) (x4 : UInt64) (x5 : UInt64) : entryFrame m #[(.ref x0), (.long x1), (.double x2), (.double x3), (.double x4), (.double x5)] 11 = mkF m 0 #[.val (.ref x0), .val (.long x1), .second, .val (.double x2), .second, .val (.double x3), .second, .val (.double x4), .second, .val (.double x5), .second] [] := by first | (simp [entryFrame, mkF, argsToLocals, Value.category]; done) | rfl
def Q1 (Z : State) (a1 : Addr) (q2 : Int64) (d3 : UInt64) (d4 : UInt64) (d5 : UInt64) (d6 : UInt64) (u0 : Value) (u1 : Value) (u2 : Value) (u3 : Value) (u4 : Value) (h0 : Heap) (n0 : Nat) (v : Option Value) (h : Heap) (L : List Loc) : Prop := v = none ∧ Fr n0 L ∧ Keep h0 h [a1] ∧ Fld Z h a1 "com/example/gridshift/gridshift/Query" "id" "J" (.long q2) ∧ Fld Z h a1 "com/example/gridshift/gridshift/Query" "minLon" "D" (.double d3) ∧ Fld Z h a1 "com/example/gridshift/gridshift/Query" "minLat" "D" (.double d4) ∧ Fld Z h a1 "com/example/gridshift/gridshift/Query" "maxLon" "D" (.double d5) ∧ Fld Z h a1 "com/example/gridshift/gridshift/Query" "maxLat" "D" (.double d6)
theorem pn_com_example_gridshift_gridshift_Query : plainName "com/example/gridshift/gridshift/Query" = true := by first | (simp [plainName, overriddenIn]; done) | decide +kernel
set_option maxRecDepth 65536 in
set_option maxHeartbeats 40000000 in
theorem rm1 (l : Launch) (Z : State) (a0 : Array Value) (hw : ∀ d ∈ tables_1, d.before a0 Z = true) (ws : List Jvm.Cond) (a1 : Addr) (q2 : Int64) (d3 : UInt64) (d4 : UInt64) (d5 : UInt64) (d6 : UInt64) (u0 : Value) (u1 : Value) (u2 : Value) (u3 : Value) (u4 : Value) (h0 : Heap) (n0 : Nat) (Z0 : n0 ≤ h0.size) (E_a1 : Exa Z h0 a1 "com/example/gridshift/gridshift/Query") (ge_a1 : n0 ≤ a1) (F_id_a1 : Fld Z h0 a1 "com/example/gridshift/gridshift/Query" "id" "J" u0) (F_minLon_a1 : Fld Z h0 a1 "com/example/gridshift/gridshift/Query" "minLon" "D" u1) (F_minLat_a1 : Fld Z h0 a1 "com/example/gridshift/gridshift/Query" "minLat" "D" u2) (F_maxLon_a1 : Fld Z h0 a1 "com/example/gridshift/gridshift/Query" "maxLon" "D" u3) (F_maxLat_a1 : Fld Z h0 a1 "com/example/gridshift/gridshift/Query" "maxLat" "D" u4) :
    MetFree l (⟨"com/example/gridshift/gridshift/Query", "<init>", "(JDDDD)V"⟩ : MethodName) (head1 (Jvm.Cond.code (⟨"com/example/gridshift/gridshift/Query", "<init>", "(JDDDD)V"⟩ : MethodName) prog_63_method_1_code 11 none :: ws) ({ frames := 2, cells := 0, slots := 0, locals := 24 } : Room)) (fun a U => a = #[(.ref a1), (.long q2), (.double d3), (.double d4), (.double d5), (.double d6)] ∧ Z.Warmed39 U.vm ∧ U.heap = h0) (fun _ _ _ _ _ => True) (fun _ U o U' => ∃ v L, o = .returned v ∧ Q1 Z a1 q2 d3 d4 d5 d6 u0 u1 u2 u3 u4 h0 n0 v U'.heap L ∧ FrameEnd U o U' L ({ frames := 2, cells := 0, slots := 0, locals := 24 } : Room).cells ({ frames := 2, cells := 0, slots := 0, locals := 24 } : Room).slots) := by
  refine MetFree.of_bodySF (plainFor_of_name pn_com_example_gridshift_gridshift_Query) hisR ?_
  intro p e s m args below meth c s₁ Bd hml0 hP hK
  obtain ⟨rfl, hZ, hh⟩ := hP
  have hx := Bd.exec
  have hby := Bd.bytes
  have hlk : meth.locks = false := BodyLoose.notSynchronized Bd
  have hml : c.maxLocals = 11 := hml0
  have hown : s.vm.findClass "com/example/gridshift/gridshift/Query" = some m.cls := findClass_of_methodNamed Bd.named
  have hnm := (name_of_methodNamed Bd.named Bd.method).1
  have X0 : Stand p l e ({ frames := 2, cells := 0, slots := 0, locals := 24 } : Room) s m #[(.ref a1), (.long q2), (.double d3), (.double d4), (.double d5), (.double d6)] below meth c s₁ [] 0 0 := Stand.of_body Bd
  have e0 : s₁.heap = h0 := by rw [← hh, Bd.state]; rfl
  have N0 := Fr.nil n0
  show Go p.tables e below s (Q1 Z a1 q2 d3 d4 d5 d6 u0 u1 u2 u3 u4 h0 n0) ({ frames := 2, cells := 0, slots := 0, locals := 24 } : Room).cells ({ frames := 2, cells := 0, slots := 0, locals := 24 } : Room).slots (s₁.setTop (entryFrame m #[(.ref a1), (.long q2), (.double d3), (.double d4), (.double d5), (.double d6)] 11))
  refine Go.on (fun t k => castTop (ef_1 m a1 q2 d3 d4 d5 d6) k) ?_
  show Go p.tables e below s _ _ _ (s₁.setTop (mkF m 0 #[.val (.ref a1), .val (.long q2), .second, .val (.double d3), .second, .val (.double d4), .second, .val (.double d5), .second, .val (.double d6), .second] []))
  refine Go.on (fun t k => XS.aloadN X0.here hx rfl (hb hby d1_0) rfl rfl k) ?_
  show Go p.tables e below s _ _ _ (s₁.setTop (mkF m 1 #[.val (.ref a1), .val (.long q2), .second, .val (.double d3), .second, .val (.double d4), .second, .val (.double d5), .second, .val (.double d6), .second] [(.ref a1)]))
  obtain ⟨_, _, ⟨T1, L1, k1, n1⟩, -, X1, ⟨Lc1, hQ1, l1, y1, z1⟩, st1⟩ := X0.specialBack hx (y := (⟨"java/lang/Record", "<init>", "()V"⟩ : MethodName)) rfl hown (mvT hZ (hw _ (List.mem_of_getElem? (i := 6) rfl))) (mvT hZ (hw _ (List.mem_of_getElem? (i := 7) rfl))) (mvT hZ (hw _ (List.mem_of_getElem? (i := 10) rfl))) (by decide) (backOf (W := 0) (rm2 l Z a0 hw [] a1 h0 n0 Z0 ) hZ (hw _ (List.mem_of_getElem? (i := 10) rfl)) (hw _ (List.mem_of_getElem? (i := 9) rfl)) (by decide) (by decide)) (g := (mkF m 1 #[.val (.ref a1), .val (.long q2), .second, .val (.double d3), .second, .val (.double d4), .second, .val (.double d5), .second, .val (.double d6), .second] [(.ref a1)])) rfl (by rw [hml]; rfl) (Steps.refl _) (a := a1) (argsL := []) (rest := []) (lenOf pd__40__41_V rfl) rfl (by show 2 * 0 + _ ≤ _; exact Nat.le_of_eq rfl) (hb hby d1_1) (fun _ _ => ⟨rfl, e0, (by decide : 0 + 0 ≤ _), (by decide : 0 + 0 ≤ _)⟩)
  dsimp only [Pt.U, Pt.locs, Pt.cells, Pt.slots] at X1 l1 y1 z1 st1 hQ1
  subst l1 y1 z1
  obtain ⟨rfl, Nq1, e1⟩ := hQ1
  have Np2 := Fr.app N0 Nq1
  refine Go.via st1 ?_
  show Go p.tables e below s _ _ _ (T1.setTop (mkF m 4 #[.val (.ref a1), .val (.long q2), .second, .val (.double d3), .second, .val (.double d4), .second, .val (.double d5), .second, .val (.double d6), .second] []))
  refine Go.on (fun t k => XS.aloadN X1.here hx rfl (hb hby d1_4) rfl rfl k) ?_
  show Go p.tables e below s _ _ _ (T1.setTop (mkF m 5 #[.val (.ref a1), .val (.long q2), .second, .val (.double d3), .second, .val (.double d4), .second, .val (.double d5), .second, .val (.double d6), .second] [(.ref a1)]))
  refine Go.on (fun t k => XS.lloadN X1.here hx rfl (hb hby d1_5) rfl k) ?_
  show Go p.tables e below s _ _ _ (T1.setTop (mkF m 6 #[.val (.ref a1), .val (.long q2), .second, .val (.double d3), .second, .val (.double d4), .second, .val (.double d5), .second, .val (.double d6), .second] [(.long q2), (.ref a1)]))
  obtain ⟨T3, h3, X3, e3, W3, st3⟩ := putF X1 hx hZ hown (host := "") (Or.inl (hw _ (List.mem_of_getElem? (i := 14) rfl))) Via.refl e1 F_id_a1 E_a1 (Or.inr ⟨(hw _ (List.mem_of_getElem? (i := 15) rfl)), rfl, hnm⟩) (hw _ (List.mem_of_getElem? (i := 1) rfl)) (ty := .long) (by decide) rfl rfl (g := (mkF m 6 #[.val (.ref a1), .val (.long q2), .second, .val (.double d3), .second, .val (.double d4), .second, .val (.double d5), .second, .val (.double d6), .second] [(.long q2), (.ref a1)])) rfl rfl (hb hby d1_6)
  have E_a1_4 := E_a1.wr W3
  have F_id_a1_5 := F_id_a1.same W3
  have F_minLon_a1_6 := F_minLon_a1.other W3 (Or.inr (slot_ne (Or.inr (hw _ (List.mem_of_getElem? (i := 17) rfl))) (Or.inr (hw _ (List.mem_of_getElem? (i := 15) rfl))) (by decide) (t := .double) (t' := .long) (by decide) (by decide)))
  have F_minLat_a1_7 := F_minLat_a1.other W3 (Or.inr (slot_ne (Or.inr (hw _ (List.mem_of_getElem? (i := 19) rfl))) (Or.inr (hw _ (List.mem_of_getElem? (i := 15) rfl))) (by decide) (t := .double) (t' := .long) (by decide) (by decide)))
  have F_maxLon_a1_8 := F_maxLon_a1.other W3 (Or.inr (slot_ne (Or.inr (hw _ (List.mem_of_getElem? (i := 21) rfl))) (Or.inr (hw _ (List.mem_of_getElem? (i := 15) rfl))) (by decide) (t := .double) (t' := .long) (by decide) (by decide)))
  have F_maxLat_a1_9 := F_maxLat_a1.other W3 (Or.inr (slot_ne (Or.inr (hw _ (List.mem_of_getElem? (i := 23) rfl))) (Or.inr (hw _ (List.mem_of_getElem? (i := 15) rfl))) (by decide) (t := .double) (t' := .long) (by decide) (by decide)))
  have Zp10 := Nat.le_trans Z0 (Keep.of_wr W3).1
  have Kp11 := (Keep.refl h0 [a1]).wr W3 (Or.inl (List.mem_of_getElem? (i := 0) rfl))
  have Np12 := Fr.snoc X3 Np2 ge_a1
  refine Go.on st3 ?_
  show Go p.tables e below s _ _ _ (T3.setTop (mkF m 9 #[.val (.ref a1), .val (.long q2), .second, .val (.double d3), .second, .val (.double d4), .second, .val (.double d5), .second, .val (.double d6), .second] []))
  refine Go.on (fun t k => XS.aloadN X3.here hx rfl (hb hby d1_9) rfl rfl k) ?_
  show Go p.tables e below s _ _ _ (T3.setTop (mkF m 10 #[.val (.ref a1), .val (.long q2), .second, .val (.double d3), .second, .val (.double d4), .second, .val (.double d5), .second, .val (.double d6), .second] [(.ref a1)]))
  refine Go.on (fun t k => XS.dloadN X3.here hx rfl (hb hby d1_10) rfl k) ?_
  show Go p.tables e below s _ _ _ (T3.setTop (mkF m 11 #[.val (.ref a1), .val (.long q2), .second, .val (.double d3), .second, .val (.double d4), .second, .val (.double d5), .second, .val (.double d6), .second] [(.double d3), (.ref a1)]))
  obtain ⟨T13, h13, X13, e13, W13, st13⟩ := putF X3 hx hZ hown (host := "") (Or.inl (hw _ (List.mem_of_getElem? (i := 16) rfl))) Via.refl e3 F_minLon_a1_6 E_a1_4 (Or.inr ⟨(hw _ (List.mem_of_getElem? (i := 17) rfl)), rfl, hnm⟩) (hw _ (List.mem_of_getElem? (i := 1) rfl)) (ty := .double) (by decide) rfl rfl (g := (mkF m 11 #[.val (.ref a1), .val (.long q2), .second, .val (.double d3), .second, .val (.double d4), .second, .val (.double d5), .second, .val (.double d6), .second] [(.double d3), (.ref a1)])) rfl rfl (hb hby d1_11)
  have E_a1_14 := E_a1_4.wr W13
  have F_id_a1_15 := F_id_a1_5.other W13 (Or.inr (slot_ne (Or.inr (hw _ (List.mem_of_getElem? (i := 15) rfl))) (Or.inr (hw _ (List.mem_of_getElem? (i := 17) rfl))) (by decide) (t := .long) (t' := .double) (by decide) (by decide)))
  have F_minLon_a1_16 := F_minLon_a1_6.same W13
  have F_minLat_a1_17 := F_minLat_a1_7.other W13 (Or.inr (slot_ne (Or.inr (hw _ (List.mem_of_getElem? (i := 19) rfl))) (Or.inr (hw _ (List.mem_of_getElem? (i := 17) rfl))) (by decide) (t := .double) (t' := .double) (by decide) (by decide)))
  have F_maxLon_a1_18 := F_maxLon_a1_8.other W13 (Or.inr (slot_ne (Or.inr (hw _ (List.mem_of_getElem? (i := 21) rfl))) (Or.inr (hw _ (List.mem_of_getElem? (i := 17) rfl))) (by decide) (t := .double) (t' := .double) (by decide) (by decide)))
  have F_maxLat_a1_19 := F_maxLat_a1_9.other W13 (Or.inr (slot_ne (Or.inr (hw _ (List.mem_of_getElem? (i := 23) rfl))) (Or.inr (hw _ (List.mem_of_getElem? (i := 17) rfl))) (by decide) (t := .double) (t' := .double) (by decide) (by decide)))
  have Zp20 := Nat.le_trans Zp10 (Keep.of_wr W13).1
  have Kp21 := Kp11.wr W13 (Or.inl (List.mem_of_getElem? (i := 0) rfl))
  have Np22 := Fr.snoc X13 Np12 ge_a1
  refine Go.on st13 ?_
  show Go p.tables e below s _ _ _ (T13.setTop (mkF m 14 #[.val (.ref a1), .val (.long q2), .second, .val (.double d3), .second, .val (.double d4), .second, .val (.double d5), .second, .val (.double d6), .second] []))
  refine Go.on (fun t k => XS.aloadN X13.here hx rfl (hb hby d1_14) rfl rfl k) ?_
  show Go p.tables e below s _ _ _ (T13.setTop (mkF m 15 #[.val (.ref a1), .val (.long q2), .second, .val (.double d3), .second, .val (.double d4), .second, .val (.double d5), .second, .val (.double d6), .second] [(.ref a1)]))
  refine Go.on (fun t k => XS.dload X13.here hx rfl (hb hby d1_15) rfl k) ?_
  show Go p.tables e below s _ _ _ (T13.setTop (mkF m 17 #[.val (.ref a1), .val (.long q2), .second, .val (.double d3), .second, .val (.double d4), .second, .val (.double d5), .second, .val (.double d6), .second] [(.double d4), (.ref a1)]))
  obtain ⟨T23, h23, X23, e23, W23, st23⟩ := putF X13 hx hZ hown (host := "") (Or.inl (hw _ (List.mem_of_getElem? (i := 18) rfl))) Via.refl e13 F_minLat_a1_17 E_a1_14 (Or.inr ⟨(hw _ (List.mem_of_getElem? (i := 19) rfl)), rfl, hnm⟩) (hw _ (List.mem_of_getElem? (i := 1) rfl)) (ty := .double) (by decide) rfl rfl (g := (mkF m 17 #[.val (.ref a1), .val (.long q2), .second, .val (.double d3), .second, .val (.double d4), .second, .val (.double d5), .second, .val (.double d6), .second] [(.double d4), (.ref a1)])) rfl rfl (hb hby d1_17)
  have E_a1_24 := E_a1_14.wr W23
  have F_id_a1_25 := F_id_a1_15.other W23 (Or.inr (slot_ne (Or.inr (hw _ (List.mem_of_getElem? (i := 15) rfl))) (Or.inr (hw _ (List.mem_of_getElem? (i := 19) rfl))) (by decide) (t := .long) (t' := .double) (by decide) (by decide)))
  have F_minLon_a1_26 := F_minLon_a1_16.other W23 (Or.inr (slot_ne (Or.inr (hw _ (List.mem_of_getElem? (i := 17) rfl))) (Or.inr (hw _ (List.mem_of_getElem? (i := 19) rfl))) (by decide) (t := .double) (t' := .double) (by decide) (by decide)))
  have F_minLat_a1_27 := F_minLat_a1_17.same W23
  have F_maxLon_a1_28 := F_maxLon_a1_18.other W23 (Or.inr (slot_ne (Or.inr (hw _ (List.mem_of_getElem? (i := 21) rfl))) (Or.inr (hw _ (List.mem_of_getElem? (i := 19) rfl))) (by decide) (t := .double) (t' := .double) (by decide) (by decide)))
  have F_maxLat_a1_29 := F_maxLat_a1_19.other W23 (Or.inr (slot_ne (Or.inr (hw _ (List.mem_of_getElem? (i := 23) rfl))) (Or.inr (hw _ (List.mem_of_getElem? (i := 19) rfl))) (by decide) (t := .double) (t' := .double) (by decide) (by decide)))
  have Zp30 := Nat.le_trans Zp20 (Keep.of_wr W23).1
  have Kp31 := Kp21.wr W23 (Or.inl (List.mem_of_getElem? (i := 0) rfl))
  have Np32 := Fr.snoc X23 Np22 ge_a1
  refine Go.on st23 ?_
  show Go p.tables e below s _ _ _ (T23.setTop (mkF m 20 #[.val (.ref a1), .val (.long q2), .second, .val (.double d3), .second, .val (.double d4), .second, .val (.double d5), .second, .val (.double d6), .second] []))
  refine Go.on (fun t k => XS.aloadN X23.here hx rfl (hb hby d1_20) rfl rfl k) ?_
  show Go p.tables e below s _ _ _ (T23.setTop (mkF m 21 #[.val (.ref a1), .val (.long q2), .second, .val (.double d3), .second, .val (.double d4), .second, .val (.double d5), .second, .val (.double d6), .second] [(.ref a1)]))
  refine Go.on (fun t k => XS.dload X23.here hx rfl (hb hby d1_21) rfl k) ?_
  show Go p.tables e below s _ _ _ (T23.setTop (mkF m 23 #[.val (.ref a1), .val (.long q2), .second, .val (.double d3), .second, .val (.double d4), .second, .val (.double d5), .second, .val (.double d6), .second] [(.double d5), (.ref a1)]))
  obtain ⟨T33, h33, X33, e33, W33, st33⟩ := putF X23 hx hZ hown (host := "") (Or.inl (hw _ (List.mem_of_getElem? (i := 20) rfl))) Via.refl e23 F_maxLon_a1_28 E_a1_24 (Or.inr ⟨(hw _ (List.mem_of_getElem? (i := 21) rfl)), rfl, hnm⟩) (hw _ (List.mem_of_getElem? (i := 1) rfl)) (ty := .double) (by decide) rfl rfl (g := (mkF m 23 #[.val (.ref a1), .val (.long q2), .second, .val (.double d3), .second, .val (.double d4), .second, .val (.double d5), .second, .val (.double d6), .second] [(.double d5), (.ref a1)])) rfl rfl (hb hby d1_23)
  have E_a1_34 := E_a1_24.wr W33
  have F_id_a1_35 := F_id_a1_25.other W33 (Or.inr (slot_ne (Or.inr (hw _ (List.mem_of_getElem? (i := 15) rfl))) (Or.inr (hw _ (List.mem_of_getElem? (i := 21) rfl))) (by decide) (t := .long) (t' := .double) (by decide) (by decide)))
  have F_minLon_a1_36 := F_minLon_a1_26.other W33 (Or.inr (slot_ne (Or.inr (hw _ (List.mem_of_getElem? (i := 17) rfl))) (Or.inr (hw _ (List.mem_of_getElem? (i := 21) rfl))) (by decide) (t := .double) (t' := .double) (by decide) (by decide)))
  have F_minLat_a1_37 := F_minLat_a1_27.other W33 (Or.inr (slot_ne (Or.inr (hw _ (List.mem_of_getElem? (i := 19) rfl))) (Or.inr (hw _ (List.mem_of_getElem? (i := 21) rfl))) (by decide) (t := .double) (t' := .double) (by decide) (by decide)))
  have F_maxLon_a1_38 := F_maxLon_a1_28.same W33
  have F_maxLat_a1_39 := F_maxLat_a1_29.other W33 (Or.inr (slot_ne (Or.inr (hw _ (List.mem_of_getElem? (i := 23) rfl))) (Or.inr (hw _ (List.mem_of_getElem? (i := 21) rfl))) (by decide) (t := .double) (t' := .double) (by decide) (by decide)))
  have Zp40 := Nat.le_trans Zp30 (Keep.of_wr W33).1
  have Kp41 := Kp31.wr W33 (Or.inl (List.mem_of_getElem? (i := 0) rfl))
  have Np42 := Fr.snoc X33 Np32 ge_a1
  refine Go.on st33 ?_
  show Go p.tables e below s _ _ _ (T33.setTop (mkF m 26 #[.val (.ref a1), .val (.long q2), .second, .val (.double d3), .second, .val (.double d4), .second, .val (.double d5), .second, .val (.double d6), .second] []))
  refine Go.on (fun t k => XS.aloadN X33.here hx rfl (hb hby d1_26) rfl rfl k) ?_
  show Go p.tables e below s _ _ _ (T33.setTop (mkF m 27 #[.val (.ref a1), .val (.long q2), .second, .val (.double d3), .second, .val (.double d4), .second, .val (.double d5), .second, .val (.double d6), .second] [(.ref a1)]))
  refine Go.on (fun t k => XS.dload X33.here hx rfl (hb hby d1_27) rfl k) ?_
  show Go p.tables e below s _ _ _ (T33.setTop (mkF m 29 #[.val (.ref a1), .val (.long q2), .second, .val (.double d3), .second, .val (.double d4), .second, .val (.double d5), .second, .val (.double d6), .second] [(.double d6), (.ref a1)]))
  obtain ⟨T43, h43, X43, e43, W43, st43⟩ := putF X33 hx hZ hown (host := "") (Or.inl (hw _ (List.mem_of_getElem? (i := 22) rfl))) Via.refl e33 F_maxLat_a1_39 E_a1_34 (Or.inr ⟨(hw _ (List.mem_of_getElem? (i := 23) rfl)), rfl, hnm⟩) (hw _ (List.mem_of_getElem? (i := 1) rfl)) (ty := .double) (by decide) rfl rfl (g := (mkF m 29 #[.val (.ref a1), .val (.long q2), .second, .val (.double d3), .second, .val (.double d4), .second, .val (.double d5), .second, .val (.double d6), .second] [(.double d6), (.ref a1)])) rfl rfl (hb hby d1_29)
  have E_a1_44 := E_a1_34.wr W43
  have F_id_a1_45 := F_id_a1_35.other W43 (Or.inr (slot_ne (Or.inr (hw _ (List.mem_of_getElem? (i := 15) rfl))) (Or.inr (hw _ (List.mem_of_getElem? (i := 23) rfl))) (by decide) (t := .long) (t' := .double) (by decide) (by decide)))
  have F_minLon_a1_46 := F_minLon_a1_36.other W43 (Or.inr (slot_ne (Or.inr (hw _ (List.mem_of_getElem? (i := 17) rfl))) (Or.inr (hw _ (List.mem_of_getElem? (i := 23) rfl))) (by decide) (t := .double) (t' := .double) (by decide) (by decide)))
  have F_minLat_a1_47 := F_minLat_a1_37.other W43 (Or.inr (slot_ne (Or.inr (hw _ (List.mem_of_getElem? (i := 19) rfl))) (Or.inr (hw _ (List.mem_of_getElem? (i := 23) rfl))) (by decide) (t := .double) (t' := .double) (by decide) (by decide)))
  have F_maxLon_a1_48 := F_maxLon_a1_38.other W43 (Or.inr (slot_ne (Or.inr (hw _ (List.mem_of_getElem? (i := 21) rfl))) (Or.inr (hw _ (List.mem_of_getElem? (i := 23) rfl))) (by decide) (t := .double) (t' := .double) (by decide) (by decide)))
  have F_maxLat_a1_49 := F_maxLat_a1_39.same W43
  have Zp50 := Nat.le_trans Zp40 (Keep.of_wr W43).1
  have Kp51 := Kp41.wr W43 (Or.inl (List.mem_of_getElem? (i := 0) rfl))
  have Np52 := Fr.snoc X43 Np42 ge_a1
  refine Go.on st43 ?_
  show Go p.tables e below s _ _ _ (T43.setTop (mkF m 32 #[.val (.ref a1), .val (.long q2), .second, .val (.double d3), .second, .val (.double d4), .second, .val (.double d5), .second, .val (.double d6), .second] []))
  refine Go.retV X43 hx hlk Bd.returns (hb hby d1_32) (by decide) (by decide) e43 ?_
  exact ⟨rfl, Np52, Kp51, F_id_a1_45, F_minLon_a1_46, F_minLat_a1_47, F_maxLon_a1_48, F_maxLat_a1_49⟩
theorem d4_0 : decode prog_63_method_2_code 0 = .ok (.aload_n 0, 1) := by decide +kernel
theorem d4_1 : decode prog_63_method_2_code 1 = .ok (.getfield 13, 3) := by decide +kernel
theorem d4_4 : decode prog_63_method_2_code 4 = .ok (.dload_n 1, 1) := by decide +kernel
theorem d4_5 : decode prog_63_method_2_code 5 = .ok (.dcmp .g, 1) := by decide +kernel
theorem d4_6 : decode prog_63_method_2_code 6 = .ok (.ifCond .gt 34, 3) := by decide +kernel
theorem d4_9 : decode prog_63_method_2_code 9 = .ok (.dload_n 1, 1) := by decide +kernel
theorem d4_10 : decode prog_63_method_2_code 10 = .ok (.aload_n 0, 1) := by decide +kernel
theorem d4_11 : decode prog_63_method_2_code 11 = .ok (.getfield 20, 3) := by decide +kernel
theorem d4_14 : decode prog_63_method_2_code 14 = .ok (.dcmp .g, 1) := by decide +kernel
theorem d4_15 : decode prog_63_method_2_code 15 = .ok (.ifCond .gt 25, 3) := by decide +kernel
theorem d4_18 : decode prog_63_method_2_code 18 = .ok (.aload_n 0, 1) := by decide +kernel
theorem d4_19 : decode prog_63_method_2_code 19 = .ok (.getfield 17, 3) := by decide +kernel
theorem d4_22 : decode prog_63_method_2_code 22 = .ok (.dload_n 3, 1) := by decide +kernel
theorem d4_23 : decode prog_63_method_2_code 23 = .ok (.dcmp .g, 1) := by decide +kernel
theorem d4_24 : decode prog_63_method_2_code 24 = .ok (.ifCond .gt 16, 3) := by decide +kernel
theorem d4_27 : decode prog_63_method_2_code 27 = .ok (.dload_n 3, 1) := by decide +kernel
theorem d4_28 : decode prog_63_method_2_code 28 = .ok (.aload_n 0, 1) := by decide +kernel
theorem d4_29 : decode prog_63_method_2_code 29 = .ok (.getfield 23, 3) := by decide +kernel
theorem d4_32 : decode prog_63_method_2_code 32 = .ok (.dcmp .g, 1) := by decide +kernel
theorem d4_33 : decode prog_63_method_2_code 33 = .ok (.ifCond .gt 7, 3) := by decide +kernel
theorem d4_36 : decode prog_63_method_2_code 36 = .ok (.iconst 1, 1) := by decide +kernel
theorem d4_37 : decode prog_63_method_2_code 37 = .ok (.goto 4, 3) := by decide +kernel
theorem d4_40 : decode prog_63_method_2_code 40 = .ok (.iconst 0, 1) := by decide +kernel
theorem d4_41 : decode prog_63_method_2_code 41 = .ok (.ireturn, 1) := by decide +kernel
theorem ef_4 (m : MethodId) (x0 : Addr) (x1 : UInt64) (x2 : UInt64) : entryFrame m #[(.ref x0), (.double x1), (.double x2)] 5 = mkF m 0 #[.val (.ref x0), .val (.double x1), .second, .val (.double x2), .second] [] := by first | (simp [entryFrame, mkF, argsToLocals, Value.category]; done) | rfl
def Q4 (Z : State) (a1 : Addr) (d2 : UInt64) (d3 : UInt64) (c1 : Int32) (r1 : Int32) (c2 : Int32) (r2 : Int32) (x : Int32) (y : Int32) (h0 : Heap) (n0 : Nat) (v : Option Value) (h : Heap) (L : List Loc) : Prop := v = some (.int (own_b (¬ (0 : Int32) < lcmpW c1.toInt64 x.toInt64 ∧ ¬ (0 : Int32) < lcmpW x.toInt64 c2.toInt64 ∧ ¬ (0 : Int32) < lcmpW r1.toInt64 y.toInt64 ∧ ¬ (0 : Int32) < lcmpW y.toInt64 r2.toInt64))) ∧ Fr n0 L ∧ h = h0
set_option maxRecDepth 65536 in
set_option maxHeartbeats 40000000 in
theorem rm4 (l : Launch) (Z : State) (a0 : Array Value) (hw : ∀ d ∈ tables_1, d.before a0 Z = true) (ws : List Jvm.Cond) (a1 : Addr) (d2 : UInt64) (d3 : UInt64) (c1 : Int32) (r1 : Int32) (c2 : Int32) (r2 : Int32) (x : Int32) (y : Int32) (h0 : Heap) (n0 : Nat) (Z0 : n0 ≤ h0.size) (F_minLon_a1 : Fld Z h0 a1 "com/example/gridshift/gridshift/Query" "minLon" "D" (.double (FP.i2d c1))) (F_minLat_a1 : Fld Z h0 a1 "com/example/gridshift/gridshift/Query" "minLat" "D" (.double (FP.i2d r1))) (F_maxLon_a1 : Fld Z h0 a1 "com/example/gridshift/gridshift/Query" "maxLon" "D" (.double (FP.i2d c2))) (F_maxLat_a1 : Fld Z h0 a1 "com/example/gridshift/gridshift/Query" "maxLat" "D" (.double (FP.i2d r2))) (hx2 : d2 = FP.i2d x) (hy2 : d3 = FP.i2d y) :
    MetFree l (⟨"com/example/gridshift/gridshift/Query", "contains", "(DD)Z"⟩ : MethodName) (head1 (Jvm.Cond.code (⟨"com/example/gridshift/gridshift/Query", "contains", "(DD)Z"⟩ : MethodName) prog_63_method_2_code 5 (some .boolean) :: ws) ({ frames := 0, cells := 0, slots := 0, locals := 0 } : Room)) (fun a U => a = #[(.ref a1), (.double d2), (.double d3)] ∧ Z.Warmed39 U.vm ∧ U.heap = h0) (fun _ _ _ _ _ => True) (fun _ U o U' => ∃ v L, o = .returned v ∧ Q4 Z a1 d2 d3 c1 r1 c2 r2 x y h0 n0 v U'.heap L ∧ FrameEnd U o U' L ({ frames := 0, cells := 0, slots := 0, locals := 0 } : Room).cells ({ frames := 0, cells := 0, slots := 0, locals := 0 } : Room).slots) := by
  refine MetFree.of_bodySF (plainFor_of_name pn_com_example_gridshift_gridshift_Query) hisR ?_
  intro p e s m args below meth c s₁ Bd hml0 hP hK
  obtain ⟨rfl, hZ, hh⟩ := hP
  have hx := Bd.exec
  have hby := Bd.bytes
  have hlk : meth.locks = false := BodyLoose.notSynchronized Bd
  have hml : c.maxLocals = 5 := hml0
  have hown : s.vm.findClass "com/example/gridshift/gridshift/Query" = some m.cls := findClass_of_methodNamed Bd.named
  have hnm := (name_of_methodNamed Bd.named Bd.method).1
  have X0 : Stand p l e ({ frames := 0, cells := 0, slots := 0, locals := 0 } : Room) s m #[(.ref a1), (.double d2), (.double d3)] below meth c s₁ [] 0 0 := Stand.of_body Bd
  have e0 : s₁.heap = h0 := by rw [← hh, Bd.state]; rfl
  have N0 := Fr.nil n0
  show Go p.tables e below s (Q4 Z a1 d2 d3 c1 r1 c2 r2 x y h0 n0) ({ frames := 0, cells := 0, slots := 0, locals := 0 } : Room).cells ({ frames := 0, cells := 0, slots := 0, locals := 0 } : Room).slots (s₁.setTop (entryFrame m #[(.ref a1), (.double d2), (.double d3)] 5))
  refine Go.on (fun t k => castTop (ef_4 m a1 d2 d3) k) ?_
  show Go p.tables e below s _ _ _ (s₁.setTop (mkF m 0 #[.val (.ref a1), .val (.double d2), .second, .val (.double d3), .second] []))
  subst hx2 hy2
  show Go p.tables e below s _ _ _ (s₁.setTop (mkF m 0 #[.val (.ref a1), .val (.double (FP.i2d x)), .second, .val (.double (FP.i2d y)), .second] []))
  refine Go.on (fun t k => XS.aloadN X0.here hx rfl (hb hby d4_0) rfl rfl k) ?_
  show Go p.tables e below s _ _ _ (s₁.setTop (mkF m 1 #[.val (.ref a1), .val (.double (FP.i2d x)), .second, .val (.double (FP.i2d y)), .second] [(.ref a1)]))
  obtain ⟨T1, X1, e1, st1⟩ := getF X0 hx hZ hown (host := "") (Or.inl (hw _ (List.mem_of_getElem? (i := 16) rfl))) Via.refl e0 F_minLon_a1 (g := (mkF m 1 #[.val (.ref a1), .val (.double (FP.i2d x)), .second, .val (.double (FP.i2d y)), .second] [(.ref a1)])) rfl rfl (hb hby d4_1)
  refine Go.on st1 ?_
  show Go p.tables e below s _ _ _ (T1.setTop (mkF m 4 #[.val (.ref a1), .val (.double (FP.i2d x)), .second, .val (.double (FP.i2d y)), .second] [(.double (FP.i2d c1))]))
  refine Go.on (fun t k => XS.dloadN X1.here hx rfl (hb hby d4_4) rfl k) ?_
  show Go p.tables e below s _ _ _ (T1.setTop (mkF m 5 #[.val (.ref a1), .val (.double (FP.i2d x)), .second, .val (.double (FP.i2d y)), .second] [(.double (FP.i2d x)), (.double (FP.i2d c1))]))
  refine Go.on (fun t k => XS.dcmpS X1.here hx rfl (hb hby d4_5) rfl (own_dc _ _ _) k) ?_
  show Go p.tables e below s _ _ _ (T1.setTop (mkF m 6 #[.val (.ref a1), .val (.double (FP.i2d x)), .second, .val (.double (FP.i2d y)), .second] [(.int (lcmpW c1.toInt64 x.toInt64))]))
  by_cases hc6_2 : (0 : Int32) < (lcmpW c1.toInt64 x.toInt64)
  · refine Go.on (fun t k => XS.ifYes X1.here hx rfl (pc0 := 6) (pc' := 40) rfl (hb hby d4_6) rfl ((if0 _ _).trans (tlt hc6_2).2.2.1) (by decide) (by decide) k) ?_
    show Go p.tables e below s _ _ _ (T1.setTop (mkF m 40 #[.val (.ref a1), .val (.double (FP.i2d x)), .second, .val (.double (FP.i2d y)), .second] []))
    refine Go.on (fun t k => XS.iconst X1.here hx rfl (hb hby d4_40) k) ?_
    show Go p.tables e below s _ _ _ (T1.setTop (mkF m 41 #[.val (.ref a1), .val (.double (FP.i2d x)), .second, .val (.double (FP.i2d y)), .second] [(.int (0 : Int32))]))
    refine Go.retN X1 hx hlk (t := .boolean) Bd.returns (by simp) (hb hby d4_41) (by decide) (by decide) e1 ?_
    exact ⟨(by rw [own_bf (fun q => q.1 hc6_2)]; rfl), N0, rfl⟩
  · refine Go.on (fun t k => XS.ifNo X1.here hx rfl (hb hby d4_6) rfl ((if0 _ _).trans (flt hc6_2).2.2.1) k) ?_
    show Go p.tables e below s _ _ _ (T1.setTop (mkF m 9 #[.val (.ref a1), .val (.double (FP.i2d x)), .second, .val (.double (FP.i2d y)), .second] []))
    refine Go.on (fun t k => XS.dloadN X1.here hx rfl (hb hby d4_9) rfl k) ?_
    show Go p.tables e below s _ _ _ (T1.setTop (mkF m 10 #[.val (.ref a1), .val (.double (FP.i2d x)), .second, .val (.double (FP.i2d y)), .second] [(.double (FP.i2d x))]))
    refine Go.on (fun t k => XS.aloadN X1.here hx rfl (hb hby d4_10) rfl rfl k) ?_
    show Go p.tables e below s _ _ _ (T1.setTop (mkF m 11 #[.val (.ref a1), .val (.double (FP.i2d x)), .second, .val (.double (FP.i2d y)), .second] [(.ref a1), (.double (FP.i2d x))]))
    obtain ⟨T3, X3, e3, st3⟩ := getF X1 hx hZ hown (host := "") (Or.inl (hw _ (List.mem_of_getElem? (i := 20) rfl))) Via.refl e1 F_maxLon_a1 (g := (mkF m 11 #[.val (.ref a1), .val (.double (FP.i2d x)), .second, .val (.double (FP.i2d y)), .second] [(.ref a1), (.double (FP.i2d x))])) rfl rfl (hb hby d4_11)
    refine Go.on st3 ?_
    show Go p.tables e below s _ _ _ (T3.setTop (mkF m 14 #[.val (.ref a1), .val (.double (FP.i2d x)), .second, .val (.double (FP.i2d y)), .second] [(.double (FP.i2d c2)), (.double (FP.i2d x))]))
    refine Go.on (fun t k => XS.dcmpS X3.here hx rfl (hb hby d4_14) rfl (own_dc _ _ _) k) ?_
    show Go p.tables e below s _ _ _ (T3.setTop (mkF m 15 #[.val (.ref a1), .val (.double (FP.i2d x)), .second, .val (.double (FP.i2d y)), .second] [(.int (lcmpW x.toInt64 c2.toInt64))]))
    by_cases hc15_4 : (0 : Int32) < (lcmpW x.toInt64 c2.toInt64)
    · refine Go.on (fun t k => XS.ifYes X3.here hx rfl (pc0 := 15) (pc' := 40) rfl (hb hby d4_15) rfl ((if0 _ _).trans (tlt hc15_4).2.2.1) (by decide) (by decide) k) ?_
      show Go p.tables e below s _ _ _ (T3.setTop (mkF m 40 #[.val (.ref a1), .val (.double (FP.i2d x)), .second, .val (.double (FP.i2d y)), .second] []))
      refine Go.on (fun t k => XS.iconst X3.here hx rfl (hb hby d4_40) k) ?_
      show Go p.tables e below s _ _ _ (T3.setTop (mkF m 41 #[.val (.ref a1), .val (.double (FP.i2d x)), .second, .val (.double (FP.i2d y)), .second] [(.int (0 : Int32))]))
      refine Go.retN X3 hx hlk (t := .boolean) Bd.returns (by simp) (hb hby d4_41) (by decide) (by decide) e3 ?_
      exact ⟨(by rw [own_bf (fun q => q.2.1 hc15_4)]; rfl), N0, rfl⟩
    · refine Go.on (fun t k => XS.ifNo X3.here hx rfl (hb hby d4_15) rfl ((if0 _ _).trans (flt hc15_4).2.2.1) k) ?_
      show Go p.tables e below s _ _ _ (T3.setTop (mkF m 18 #[.val (.ref a1), .val (.double (FP.i2d x)), .second, .val (.double (FP.i2d y)), .second] []))
      refine Go.on (fun t k => XS.aloadN X3.here hx rfl (hb hby d4_18) rfl rfl k) ?_
      show Go p.tables e below s _ _ _ (T3.setTop (mkF m 19 #[.val (.ref a1), .val (.double (FP.i2d x)), .second, .val (.double (FP.i2d y)), .second] [(.ref a1)]))
      obtain ⟨T5, X5, e5, st5⟩ := getF X3 hx hZ hown (host := "") (Or.inl (hw _ (List.mem_of_getElem? (i := 18) rfl))) Via.refl e3 F_minLat_a1 (g := (mkF m 19 #[.val (.ref a1), .val (.double (FP.i2d x)), .second, .val (.double (FP.i2d y)), .second] [(.ref a1)])) rfl rfl (hb hby d4_19)
      refine Go.on st5 ?_
      show Go p.tables e below s _ _ _ (T5.setTop (mkF m 22 #[.val (.ref a1), .val (.double (FP.i2d x)), .second, .val (.double (FP.i2d y)), .second] [(.double (FP.i2d r1))]))
      refine Go.on (fun t k => XS.dloadN X5.here hx rfl (hb hby d4_22) rfl k) ?_
      show Go p.tables e below s _ _ _ (T5.setTop (mkF m 23 #[.val (.ref a1), .val (.double (FP.i2d x)), .second, .val (.double (FP.i2d y)), .second] [(.double (FP.i2d y)), (.double (FP.i2d r1))]))
      refine Go.on (fun t k => XS.dcmpS X5.here hx rfl (hb hby d4_23) rfl (own_dc _ _ _) k) ?_
      show Go p.tables e below s _ _ _ (T5.setTop (mkF m 24 #[.val (.ref a1), .val (.double (FP.i2d x)), .second, .val (.double (FP.i2d y)), .second] [(.int (lcmpW r1.toInt64 y.toInt64))]))
      by_cases hc24_6 : (0 : Int32) < (lcmpW r1.toInt64 y.toInt64)
      · refine Go.on (fun t k => XS.ifYes X5.here hx rfl (pc0 := 24) (pc' := 40) rfl (hb hby d4_24) rfl ((if0 _ _).trans (tlt hc24_6).2.2.1) (by decide) (by decide) k) ?_
        show Go p.tables e below s _ _ _ (T5.setTop (mkF m 40 #[.val (.ref a1), .val (.double (FP.i2d x)), .second, .val (.double (FP.i2d y)), .second] []))
        refine Go.on (fun t k => XS.iconst X5.here hx rfl (hb hby d4_40) k) ?_
        show Go p.tables e below s _ _ _ (T5.setTop (mkF m 41 #[.val (.ref a1), .val (.double (FP.i2d x)), .second, .val (.double (FP.i2d y)), .second] [(.int (0 : Int32))]))
        refine Go.retN X5 hx hlk (t := .boolean) Bd.returns (by simp) (hb hby d4_41) (by decide) (by decide) e5 ?_
        exact ⟨(by rw [own_bf (fun q => q.2.2.1 hc24_6)]; rfl), N0, rfl⟩
      · refine Go.on (fun t k => XS.ifNo X5.here hx rfl (hb hby d4_24) rfl ((if0 _ _).trans (flt hc24_6).2.2.1) k) ?_
        show Go p.tables e below s _ _ _ (T5.setTop (mkF m 27 #[.val (.ref a1), .val (.double (FP.i2d x)), .second, .val (.double (FP.i2d y)), .second] []))
        refine Go.on (fun t k => XS.dloadN X5.here hx rfl (hb hby d4_27) rfl k) ?_
        show Go p.tables e below s _ _ _ (T5.setTop (mkF m 28 #[.val (.ref a1), .val (.double (FP.i2d x)), .second, .val (.double (FP.i2d y)), .second] [(.double (FP.i2d y))]))
        refine Go.on (fun t k => XS.aloadN X5.here hx rfl (hb hby d4_28) rfl rfl k) ?_
        show Go p.tables e below s _ _ _ (T5.setTop (mkF m 29 #[.val (.ref a1), .val (.double (FP.i2d x)), .second, .val (.double (FP.i2d y)), .second] [(.ref a1), (.double (FP.i2d y))]))
        obtain ⟨T7, X7, e7, st7⟩ := getF X5 hx hZ hown (host := "") (Or.inl (hw _ (List.mem_of_getElem? (i := 22) rfl))) Via.refl e5 F_maxLat_a1 (g := (mkF m 29 #[.val (.ref a1), .val (.double (FP.i2d x)), .second, .val (.double (FP.i2d y)), .second] [(.ref a1), (.double (FP.i2d y))])) rfl rfl (hb hby d4_29)
        refine Go.on st7 ?_
        show Go p.tables e below s _ _ _ (T7.setTop (mkF m 32 #[.val (.ref a1), .val (.double (FP.i2d x)), .second, .val (.double (FP.i2d y)), .second] [(.double (FP.i2d r2)), (.double (FP.i2d y))]))
        refine Go.on (fun t k => XS.dcmpS X7.here hx rfl (hb hby d4_32) rfl (own_dc _ _ _) k) ?_
        show Go p.tables e below s _ _ _ (T7.setTop (mkF m 33 #[.val (.ref a1), .val (.double (FP.i2d x)), .second, .val (.double (FP.i2d y)), .second] [(.int (lcmpW y.toInt64 r2.toInt64))]))
        by_cases hc33_8 : (0 : Int32) < (lcmpW y.toInt64 r2.toInt64)
        · refine Go.on (fun t k => XS.ifYes X7.here hx rfl (pc0 := 33) (pc' := 40) rfl (hb hby d4_33) rfl ((if0 _ _).trans (tlt hc33_8).2.2.1) (by decide) (by decide) k) ?_
          show Go p.tables e below s _ _ _ (T7.setTop (mkF m 40 #[.val (.ref a1), .val (.double (FP.i2d x)), .second, .val (.double (FP.i2d y)), .second] []))
          refine Go.on (fun t k => XS.iconst X7.here hx rfl (hb hby d4_40) k) ?_
          show Go p.tables e below s _ _ _ (T7.setTop (mkF m 41 #[.val (.ref a1), .val (.double (FP.i2d x)), .second, .val (.double (FP.i2d y)), .second] [(.int (0 : Int32))]))
          refine Go.retN X7 hx hlk (t := .boolean) Bd.returns (by simp) (hb hby d4_41) (by decide) (by decide) e7 ?_
          exact ⟨(by rw [own_bf (fun q => q.2.2.2 hc33_8)]; rfl), N0, rfl⟩
        · refine Go.on (fun t k => XS.ifNo X7.here hx rfl (hb hby d4_33) rfl ((if0 _ _).trans (flt hc33_8).2.2.1) k) ?_
          show Go p.tables e below s _ _ _ (T7.setTop (mkF m 36 #[.val (.ref a1), .val (.double (FP.i2d x)), .second, .val (.double (FP.i2d y)), .second] []))
          refine Go.on (fun t k => XS.iconst X7.here hx rfl (hb hby d4_36) k) ?_
          show Go p.tables e below s _ _ _ (T7.setTop (mkF m 37 #[.val (.ref a1), .val (.double (FP.i2d x)), .second, .val (.double (FP.i2d y)), .second] [(.int (1 : Int32))]))
          refine Go.on (fun t k => XS.goto X7.here hx rfl (pc0 := 37) (pc' := 41) rfl (hb hby d4_37) (by decide) (by decide) k) ?_
          show Go p.tables e below s _ _ _ (T7.setTop (mkF m 41 #[.val (.ref a1), .val (.double (FP.i2d x)), .second, .val (.double (FP.i2d y)), .second] [(.int (1 : Int32))]))
          refine Go.retN X7 hx hlk (t := .boolean) Bd.returns (by simp) (hb hby d4_41) (by decide) (by decide) e7 ?_
          exact ⟨(by rw [own_bt ⟨hc6_2, hc15_4, hc24_6, hc33_8⟩]; rfl), N0, rfl⟩
theorem d5_0 : decode method_2_code 0 = .ok (.iload_n 2, 1) := by decide +kernel
theorem d5_1 : decode method_2_code 1 = .ok (.i2l, 1) := by decide +kernel
theorem d5_2 : decode method_2_code 2 = .ok (.iload_n 0, 1) := by decide +kernel
theorem d5_3 : decode method_2_code 3 = .ok (.i2l, 1) := by decide +kernel
theorem d5_4 : decode method_2_code 4 = .ok (.lsub, 1) := by decide +kernel
theorem d5_5 : decode method_2_code 5 = .ok (.lstore_n 3, 1) := by decide +kernel
theorem d5_6 : decode method_2_code 6 = .ok (.iload_n 1, 1) := by decide +kernel
theorem d5_7 : decode method_2_code 7 = .ok (.i2l, 1) := by decide +kernel
theorem d5_8 : decode method_2_code 8 = .ok (.iload_n 2, 1) := by decide +kernel
theorem d5_9 : decode method_2_code 9 = .ok (.i2l, 1) := by decide +kernel
theorem d5_10 : decode method_2_code 10 = .ok (.lsub, 1) := by decide +kernel
theorem d5_11 : decode method_2_code 11 = .ok (.lstore 5, 2) := by decide +kernel
theorem d5_13 : decode method_2_code 13 = .ok (.lload_n 3, 1) := by decide +kernel
theorem d5_14 : decode method_2_code 14 = .ok (.lconst 0, 1) := by decide +kernel
theorem d5_15 : decode method_2_code 15 = .ok (.lcmp, 1) := by decide +kernel
theorem d5_16 : decode method_2_code 16 = .ok (.ifCond .lt 14, 3) := by decide +kernel
theorem d5_19 : decode method_2_code 19 = .ok (.lload 5, 2) := by decide +kernel
theorem d5_21 : decode method_2_code 21 = .ok (.lconst 0, 1) := by decide +kernel
theorem d5_22 : decode method_2_code 22 = .ok (.lcmp, 1) := by decide +kernel
theorem d5_23 : decode method_2_code 23 = .ok (.ifCond .lt 7, 3) := by decide +kernel
theorem d5_26 : decode method_2_code 26 = .ok (.iconst 1, 1) := by decide +kernel
theorem d5_27 : decode method_2_code 27 = .ok (.goto 4, 3) := by decide +kernel
theorem d5_30 : decode method_2_code 30 = .ok (.iconst 0, 1) := by decide +kernel
theorem d5_31 : decode method_2_code 31 = .ok (.ireturn, 1) := by decide +kernel
theorem ef_5 (m : MethodId) (x0 : Int32) (x1 : Int32) (x2 : Int32) : entryFrame m #[(.int x0), (.int x1), (.int x2)] 7 = mkF m 0 #[.val (.int x0), .val (.int x1), .val (.int x2), .unset, .unset, .unset, .unset] [] := by first | (simp [entryFrame, mkF, argsToLocals, Value.category]; done) | rfl
def Q5 (Z : State) (p1 : Int32) (p2 : Int32) (p3 : Int32) (h0 : Heap) (n0 : Nat) (v : Option Value) (h : Heap) (L : List Loc) : Prop := v = some (.int (own_b (¬ lcmpW (p3.toInt64 - p1.toInt64) (0 : Int64) < (0 : Int32) ∧ ¬ lcmpW (p2.toInt64 - p3.toInt64) (0 : Int64) < (0 : Int32)))) ∧ Fr n0 L ∧ h = h0
theorem pn_com_example_gridshift_gridshift_QueryContainsPinLaw : plainName "com/example/gridshift/gridshift/QueryContainsPinLaw" = true := by first | (simp [plainName, overriddenIn]; done) | decide +kernel
set_option maxRecDepth 65536 in
set_option maxHeartbeats 40000000 in
theorem rm5 (l : Launch) (Z : State) (a0 : Array Value) (hw : ∀ d ∈ tables_1, d.before a0 Z = true) (ws : List Jvm.Cond) (p1 : Int32) (p2 : Int32) (p3 : Int32) (h0 : Heap) (n0 : Nat) (Z0 : n0 ≤ h0.size)  :
    MetFree l (⟨"com/example/gridshift/gridshift/QueryContainsPinLaw", "within", "(III)Z"⟩ : MethodName) (head1 (Jvm.Cond.code (⟨"com/example/gridshift/gridshift/QueryContainsPinLaw", "within", "(III)Z"⟩ : MethodName) method_2_code 7 (some .boolean) :: ws) ({ frames := 0, cells := 0, slots := 0, locals := 0 } : Room)) (fun a U => a = #[(.int p1), (.int p2), (.int p3)] ∧ Z.Warmed39 U.vm ∧ U.heap = h0) (fun _ _ _ _ _ => True) (fun _ U o U' => ∃ v L, o = .returned v ∧ Q5 Z p1 p2 p3 h0 n0 v U'.heap L ∧ FrameEnd U o U' L ({ frames := 0, cells := 0, slots := 0, locals := 0 } : Room).cells ({ frames := 0, cells := 0, slots := 0, locals := 0 } : Room).slots) := by
  refine MetFree.of_bodySF (plainFor_of_name pn_com_example_gridshift_gridshift_QueryContainsPinLaw) hisR ?_
  intro p e s m args below meth c s₁ Bd hml0 hP hK
  obtain ⟨rfl, hZ, hh⟩ := hP
  have hx := Bd.exec
  have hby := Bd.bytes
  have hlk : meth.locks = false := BodyLoose.notSynchronized Bd
  have hml : c.maxLocals = 7 := hml0
  have hown : s.vm.findClass "com/example/gridshift/gridshift/QueryContainsPinLaw" = some m.cls := findClass_of_methodNamed Bd.named
  have hnm := (name_of_methodNamed Bd.named Bd.method).1
  have X0 : Stand p l e ({ frames := 0, cells := 0, slots := 0, locals := 0 } : Room) s m #[(.int p1), (.int p2), (.int p3)] below meth c s₁ [] 0 0 := Stand.of_body Bd
  have e0 : s₁.heap = h0 := by rw [← hh, Bd.state]; rfl
  have N0 := Fr.nil n0
  show Go p.tables e below s (Q5 Z p1 p2 p3 h0 n0) ({ frames := 0, cells := 0, slots := 0, locals := 0 } : Room).cells ({ frames := 0, cells := 0, slots := 0, locals := 0 } : Room).slots (s₁.setTop (entryFrame m #[(.int p1), (.int p2), (.int p3)] 7))
  refine Go.on (fun t k => castTop (ef_5 m p1 p2 p3) k) ?_
  show Go p.tables e below s _ _ _ (s₁.setTop (mkF m 0 #[.val (.int p1), .val (.int p2), .val (.int p3), .unset, .unset, .unset, .unset] []))
  refine Go.on (fun t k => XS.iloadN X0.here hx rfl (hb hby d5_0) rfl k) ?_
  show Go p.tables e below s _ _ _ (s₁.setTop (mkF m 1 #[.val (.int p1), .val (.int p2), .val (.int p3), .unset, .unset, .unset, .unset] [(.int p3)]))
  refine Go.on (fun t k => XS.i2l X0.here hx rfl (hb hby d5_1) rfl k) ?_
  show Go p.tables e below s _ _ _ (s₁.setTop (mkF m 2 #[.val (.int p1), .val (.int p2), .val (.int p3), .unset, .unset, .unset, .unset] [(.long (p3.toInt64))]))
  refine Go.on (fun t k => XS.iloadN X0.here hx rfl (hb hby d5_2) rfl k) ?_
  show Go p.tables e below s _ _ _ (s₁.setTop (mkF m 3 #[.val (.int p1), .val (.int p2), .val (.int p3), .unset, .unset, .unset, .unset] [(.int p1), (.long (p3.toInt64))]))
  refine Go.on (fun t k => XS.i2l X0.here hx rfl (hb hby d5_3) rfl k) ?_
  show Go p.tables e below s _ _ _ (s₁.setTop (mkF m 4 #[.val (.int p1), .val (.int p2), .val (.int p3), .unset, .unset, .unset, .unset] [(.long (p1.toInt64)), (.long (p3.toInt64))]))
  refine Go.on (fun t k => XS.lsub X0.here hx rfl (hb hby d5_4) rfl k) ?_
  show Go p.tables e below s _ _ _ (s₁.setTop (mkF m 5 #[.val (.int p1), .val (.int p2), .val (.int p3), .unset, .unset, .unset, .unset] [(.long ((p3.toInt64) - (p1.toInt64)))]))
  refine Go.on (fun t k => XS.lstoreN X0.here hx rfl (hb hby d5_5) rfl (l' := #[.val (.int p1), .val (.int p2), .val (.int p3), .val (.long ((p3.toInt64) - (p1.toInt64))), .second, .unset, .unset]) rfl k) ?_
  show Go p.tables e below s _ _ _ (s₁.setTop (mkF m 6 #[.val (.int p1), .val (.int p2), .val (.int p3), .val (.long ((p3.toInt64) - (p1.toInt64))), .second, .unset, .unset] []))
  refine Go.on (fun t k => XS.iloadN X0.here hx rfl (hb hby d5_6) rfl k) ?_
  show Go p.tables e below s _ _ _ (s₁.setTop (mkF m 7 #[.val (.int p1), .val (.int p2), .val (.int p3), .val (.long ((p3.toInt64) - (p1.toInt64))), .second, .unset, .unset] [(.int p2)]))
  refine Go.on (fun t k => XS.i2l X0.here hx rfl (hb hby d5_7) rfl k) ?_
  show Go p.tables e below s _ _ _ (s₁.setTop (mkF m 8 #[.val (.int p1), .val (.int p2), .val (.int p3), .val (.long ((p3.toInt64) - (p1.toInt64))), .second, .unset, .unset] [(.long (p2.toInt64))]))
  refine Go.on (fun t k => XS.iloadN X0.here hx rfl (hb hby d5_8) rfl k) ?_
  show Go p.tables e below s _ _ _ (s₁.setTop (mkF m 9 #[.val (.int p1), .val (.int p2), .val (.int p3), .val (.long ((p3.toInt64) - (p1.toInt64))), .second, .unset, .unset] [(.int p3), (.long (p2.toInt64))]))
  refine Go.on (fun t k => XS.i2l X0.here hx rfl (hb hby d5_9) rfl k) ?_
  show Go p.tables e below s _ _ _ (s₁.setTop (mkF m 10 #[.val (.int p1), .val (.int p2), .val (.int p3), .val (.long ((p3.toInt64) - (p1.toInt64))), .second, .unset, .unset] [(.long (p3.toInt64)), (.long (p2.toInt64))]))
  refine Go.on (fun t k => XS.lsub X0.here hx rfl (hb hby d5_10) rfl k) ?_
  show Go p.tables e below s _ _ _ (s₁.setTop (mkF m 11 #[.val (.int p1), .val (.int p2), .val (.int p3), .val (.long ((p3.toInt64) - (p1.toInt64))), .second, .unset, .unset] [(.long ((p2.toInt64) - (p3.toInt64)))]))
  refine Go.on (fun t k => XS.lstore X0.here hx rfl (hb hby d5_11) rfl (l' := #[.val (.int p1), .val (.int p2), .val (.int p3), .val (.long ((p3.toInt64) - (p1.toInt64))), .second, .val (.long ((p2.toInt64) - (p3.toInt64))), .second]) rfl k) ?_
  show Go p.tables e below s _ _ _ (s₁.setTop (mkF m 13 #[.val (.int p1), .val (.int p2), .val (.int p3), .val (.long ((p3.toInt64) - (p1.toInt64))), .second, .val (.long ((p2.toInt64) - (p3.toInt64))), .second] []))
  refine Go.on (fun t k => XS.lloadN X0.here hx rfl (hb hby d5_13) rfl k) ?_
  show Go p.tables e below s _ _ _ (s₁.setTop (mkF m 14 #[.val (.int p1), .val (.int p2), .val (.int p3), .val (.long ((p3.toInt64) - (p1.toInt64))), .second, .val (.long ((p2.toInt64) - (p3.toInt64))), .second] [(.long ((p3.toInt64) - (p1.toInt64)))]))
  refine Go.on (fun t k => XS.lconst X0.here hx rfl (hb hby d5_14) k) ?_
  show Go p.tables e below s _ _ _ (s₁.setTop (mkF m 15 #[.val (.int p1), .val (.int p2), .val (.int p3), .val (.long ((p3.toInt64) - (p1.toInt64))), .second, .val (.long ((p2.toInt64) - (p3.toInt64))), .second] [(.long (0 : Int64)), (.long ((p3.toInt64) - (p1.toInt64)))]))
  refine Go.on (fun t k => XS.lcmp X0.here hx rfl (hb hby d5_15) rfl k) ?_
  show Go p.tables e below s _ _ _ (s₁.setTop (mkF m 16 #[.val (.int p1), .val (.int p2), .val (.int p3), .val (.long ((p3.toInt64) - (p1.toInt64))), .second, .val (.long ((p2.toInt64) - (p3.toInt64))), .second] [(.int (lcmpW ((p3.toInt64) - (p1.toInt64)) (0 : Int64)))]))
  by_cases hc16_1 : (lcmpW ((p3.toInt64) - (p1.toInt64)) (0 : Int64)) < (0 : Int32)
  · refine Go.on (fun t k => XS.ifYes X0.here hx rfl (pc0 := 16) (pc' := 30) rfl (hb hby d5_16) rfl ((if0 _ _).trans (tlt hc16_1).1) (by decide) (by decide) k) ?_
    show Go p.tables e below s _ _ _ (s₁.setTop (mkF m 30 #[.val (.int p1), .val (.int p2), .val (.int p3), .val (.long ((p3.toInt64) - (p1.toInt64))), .second, .val (.long ((p2.toInt64) - (p3.toInt64))), .second] []))
    refine Go.on (fun t k => XS.iconst X0.here hx rfl (hb hby d5_30) k) ?_
    show Go p.tables e below s _ _ _ (s₁.setTop (mkF m 31 #[.val (.int p1), .val (.int p2), .val (.int p3), .val (.long ((p3.toInt64) - (p1.toInt64))), .second, .val (.long ((p2.toInt64) - (p3.toInt64))), .second] [(.int (0 : Int32))]))
    refine Go.retN X0 hx hlk (t := .boolean) Bd.returns (by simp) (hb hby d5_31) (by decide) (by decide) e0 ?_
    exact ⟨(by rw [own_bf (fun q => q.1 hc16_1)]; rfl), N0, rfl⟩
  · refine Go.on (fun t k => XS.ifNo X0.here hx rfl (hb hby d5_16) rfl ((if0 _ _).trans (flt hc16_1).1) k) ?_
    show Go p.tables e below s _ _ _ (s₁.setTop (mkF m 19 #[.val (.int p1), .val (.int p2), .val (.int p3), .val (.long ((p3.toInt64) - (p1.toInt64))), .second, .val (.long ((p2.toInt64) - (p3.toInt64))), .second] []))
    refine Go.on (fun t k => XS.lload X0.here hx rfl (hb hby d5_19) rfl k) ?_
    show Go p.tables e below s _ _ _ (s₁.setTop (mkF m 21 #[.val (.int p1), .val (.int p2), .val (.int p3), .val (.long ((p3.toInt64) - (p1.toInt64))), .second, .val (.long ((p2.toInt64) - (p3.toInt64))), .second] [(.long ((p2.toInt64) - (p3.toInt64)))]))
    refine Go.on (fun t k => XS.lconst X0.here hx rfl (hb hby d5_21) k) ?_
    show Go p.tables e below s _ _ _ (s₁.setTop (mkF m 22 #[.val (.int p1), .val (.int p2), .val (.int p3), .val (.long ((p3.toInt64) - (p1.toInt64))), .second, .val (.long ((p2.toInt64) - (p3.toInt64))), .second] [(.long (0 : Int64)), (.long ((p2.toInt64) - (p3.toInt64)))]))
    refine Go.on (fun t k => XS.lcmp X0.here hx rfl (hb hby d5_22) rfl k) ?_
    show Go p.tables e below s _ _ _ (s₁.setTop (mkF m 23 #[.val (.int p1), .val (.int p2), .val (.int p3), .val (.long ((p3.toInt64) - (p1.toInt64))), .second, .val (.long ((p2.toInt64) - (p3.toInt64))), .second] [(.int (lcmpW ((p2.toInt64) - (p3.toInt64)) (0 : Int64)))]))
    by_cases hc23_2 : (lcmpW ((p2.toInt64) - (p3.toInt64)) (0 : Int64)) < (0 : Int32)
    · refine Go.on (fun t k => XS.ifYes X0.here hx rfl (pc0 := 23) (pc' := 30) rfl (hb hby d5_23) rfl ((if0 _ _).trans (tlt hc23_2).1) (by decide) (by decide) k) ?_
      show Go p.tables e below s _ _ _ (s₁.setTop (mkF m 30 #[.val (.int p1), .val (.int p2), .val (.int p3), .val (.long ((p3.toInt64) - (p1.toInt64))), .second, .val (.long ((p2.toInt64) - (p3.toInt64))), .second] []))
      refine Go.on (fun t k => XS.iconst X0.here hx rfl (hb hby d5_30) k) ?_
      show Go p.tables e below s _ _ _ (s₁.setTop (mkF m 31 #[.val (.int p1), .val (.int p2), .val (.int p3), .val (.long ((p3.toInt64) - (p1.toInt64))), .second, .val (.long ((p2.toInt64) - (p3.toInt64))), .second] [(.int (0 : Int32))]))
      refine Go.retN X0 hx hlk (t := .boolean) Bd.returns (by simp) (hb hby d5_31) (by decide) (by decide) e0 ?_
      exact ⟨(by rw [own_bf (fun q => q.2 hc23_2)]; rfl), N0, rfl⟩
    · refine Go.on (fun t k => XS.ifNo X0.here hx rfl (hb hby d5_23) rfl ((if0 _ _).trans (flt hc23_2).1) k) ?_
      show Go p.tables e below s _ _ _ (s₁.setTop (mkF m 26 #[.val (.int p1), .val (.int p2), .val (.int p3), .val (.long ((p3.toInt64) - (p1.toInt64))), .second, .val (.long ((p2.toInt64) - (p3.toInt64))), .second] []))
      refine Go.on (fun t k => XS.iconst X0.here hx rfl (hb hby d5_26) k) ?_
      show Go p.tables e below s _ _ _ (s₁.setTop (mkF m 27 #[.val (.int p1), .val (.int p2), .val (.int p3), .val (.long ((p3.toInt64) - (p1.toInt64))), .second, .val (.long ((p2.toInt64) - (p3.toInt64))), .second] [(.int (1 : Int32))]))
      refine Go.on (fun t k => XS.goto X0.here hx rfl (pc0 := 27) (pc' := 31) rfl (hb hby d5_27) (by decide) (by decide) k) ?_
      show Go p.tables e below s _ _ _ (s₁.setTop (mkF m 31 #[.val (.int p1), .val (.int p2), .val (.int p3), .val (.long ((p3.toInt64) - (p1.toInt64))), .second, .val (.long ((p2.toInt64) - (p3.toInt64))), .second] [(.int (1 : Int32))]))
      refine Go.retN X0 hx hlk (t := .boolean) Bd.returns (by simp) (hb hby d5_31) (by decide) (by decide) e0 ?_
      exact ⟨(by rw [own_bt ⟨hc16_1, hc23_2⟩]; rfl), N0, rfl⟩
theorem ef_0 (m : MethodId) (x0 : Int32) (x1 : Int32) (x2 : Int32) (x3 : Int32) (x4 : Int32) (x5 : Int32) : entryFrame m #[(.int x0), (.int x1), (.int x2), (.int x3), (.int x4), (.int x5)] maxLocals = mkF m 0 #[.val (.int x0), .val (.int x1), .val (.int x2), .val (.int x3), .val (.int x4), .val (.int x5), .unset, .unset, .unset] [] := by first | (simp [entryFrame, mkF, argsToLocals, Value.category, maxLocals]; done) | rfl
def Q0 (Z : State) (p1 : Int32) (p2 : Int32) (p3 : Int32) (p4 : Int32) (p5 : Int32) (p6 : Int32) (h0 : Heap) (n0 : Nat) (v : Option Value) (h : Heap) (L : List Loc) : Prop := v = some (.int (1 : Int32)) ∧ Fr n0 L
set_option maxRecDepth 65536 in
set_option maxHeartbeats 40000000 in
theorem rm0 (l : Launch) (Z : State) (a0 : Array Value) (hw : ∀ d ∈ tables_1, d.before a0 Z = true) (ws : List Jvm.Cond) (p1 : Int32) (p2 : Int32) (p3 : Int32) (p4 : Int32) (p5 : Int32) (p6 : Int32) (h0 : Heap) (n0 : Nat) (Z0 : n0 ≤ h0.size)  :
    MetFree l x (head1 (Jvm.Cond.code x code maxLocals ret :: ws) room_1) (fun a U => a = #[(.int p1), (.int p2), (.int p3), (.int p4), (.int p5), (.int p6)] ∧ Z.Warmed39 U.vm ∧ U.heap = h0) (fun _ _ _ _ _ => True) (fun _ U o U' => ∃ v L, o = .returned v ∧ Q0 Z p1 p2 p3 p4 p5 p6 h0 n0 v U'.heap L ∧ FrameEnd U o U' L room_1.cells room_1.slots) := by
  refine MetFree.of_bodySF (plainFor_of_name pn_com_example_gridshift_gridshift_QueryContainsPinLaw) hisR ?_
  intro p e s m args below meth c s₁ Bd hml0 hP hK
  obtain ⟨rfl, hZ, hh⟩ := hP
  have hx := Bd.exec
  have hby := Bd.bytes
  have hlk : meth.locks = false := BodyLoose.notSynchronized Bd
  have hml : c.maxLocals = 9 := hml0
  have hown : s.vm.findClass "com/example/gridshift/gridshift/QueryContainsPinLaw" = some m.cls := findClass_of_methodNamed Bd.named
  have hnm := (name_of_methodNamed Bd.named Bd.method).1
  have X0 : Stand p l e room_1 s m #[(.int p1), (.int p2), (.int p3), (.int p4), (.int p5), (.int p6)] below meth c s₁ [] 0 0 := Stand.of_body Bd
  have e0 : s₁.heap = h0 := by rw [← hh, Bd.state]; rfl
  have N0 := Fr.nil n0
  show Go p.tables e below s (Q0 Z p1 p2 p3 p4 p5 p6 h0 n0) room_1.cells room_1.slots (s₁.setTop (entryFrame m #[(.int p1), (.int p2), (.int p3), (.int p4), (.int p5), (.int p6)] maxLocals))
  refine Go.on (fun t k => castTop (ef_0 m p1 p2 p3 p4 p5 p6) k) ?_
  show Go p.tables e below s _ _ _ (s₁.setTop (mkF m 0 #[.val (.int p1), .val (.int p2), .val (.int p3), .val (.int p4), .val (.int p5), .val (.int p6), .unset, .unset, .unset] []))
  obtain ⟨T1, h1, X1, e1, E1, A1, D1, -, st1⟩ := newO X0 hx hZ hown (hw _ (List.mem_of_getElem? (i := 0) rfl)) (hw _ (List.mem_of_getElem? (i := 1) rfl)) (hw _ (List.mem_of_getElem? (i := 2) rfl)) e0 (g := (mkF m 0 #[.val (.int p1), .val (.int p2), .val (.int p3), .val (.int p4), .val (.int p5), .val (.int p6), .unset, .unset, .unset] [])) rfl (hb hby at_0) (by decide) (by decide)
  obtain ⟨b1, g1⟩ : ∃ z, z = h0.size := ⟨_, rfl⟩
  rw [← g1] at A1 D1 st1
  have ge2 : n0 ≤ b1 := Nat.le_trans Z0 (Nat.le_of_eq g1.symm)
  have Zp4 := Nat.le_trans Z0 E1.1
  have Fid_5 : Fld Z h1 b1 "com/example/gridshift/gridshift/Query" "id" "J" (.long (0 : Int64)) := D1 (Or.inr (hw _ (List.mem_of_getElem? (i := 15) rfl))) (ty := .long) (by decide)
  have FminLon_6 : Fld Z h1 b1 "com/example/gridshift/gridshift/Query" "minLon" "D" (.double 0) := D1 (Or.inr (hw _ (List.mem_of_getElem? (i := 17) rfl))) (ty := .double) (by decide)
  have FminLat_7 : Fld Z h1 b1 "com/example/gridshift/gridshift/Query" "minLat" "D" (.double 0) := D1 (Or.inr (hw _ (List.mem_of_getElem? (i := 19) rfl))) (ty := .double) (by decide)
  have FmaxLon_8 : Fld Z h1 b1 "com/example/gridshift/gridshift/Query" "maxLon" "D" (.double 0) := D1 (Or.inr (hw _ (List.mem_of_getElem? (i := 21) rfl))) (ty := .double) (by decide)
  have FmaxLat_9 : Fld Z h1 b1 "com/example/gridshift/gridshift/Query" "maxLat" "D" (.double 0) := D1 (Or.inr (hw _ (List.mem_of_getElem? (i := 23) rfl))) (ty := .double) (by decide)
  refine Go.on st1 ?_
  show Go p.tables e below s _ _ _ (T1.setTop (mkF m 3 #[.val (.int p1), .val (.int p2), .val (.int p3), .val (.int p4), .val (.int p5), .val (.int p6), .unset, .unset, .unset] [(.ref b1)]))
  refine Go.on (fun t k => XS.dup X1.here hx rfl (hb hby at_3) rfl rfl k) ?_
  show Go p.tables e below s _ _ _ (T1.setTop (mkF m 4 #[.val (.int p1), .val (.int p2), .val (.int p3), .val (.int p4), .val (.int p5), .val (.int p6), .unset, .unset, .unset] [(.ref b1), (.ref b1)]))
  refine Go.on (fun t k => XS.lconst X1.here hx rfl (hb hby at_4) k) ?_
  show Go p.tables e below s _ _ _ (T1.setTop (mkF m 5 #[.val (.int p1), .val (.int p2), .val (.int p3), .val (.int p4), .val (.int p5), .val (.int p6), .unset, .unset, .unset] [(.long (0 : Int64)), (.ref b1), (.ref b1)]))
  refine Go.on (fun t k => XS.iloadN X1.here hx rfl (hb hby at_5) rfl k) ?_
  show Go p.tables e below s _ _ _ (T1.setTop (mkF m 6 #[.val (.int p1), .val (.int p2), .val (.int p3), .val (.int p4), .val (.int p5), .val (.int p6), .unset, .unset, .unset] [(.int p1), (.long (0 : Int64)), (.ref b1), (.ref b1)]))
  refine Go.on (fun t k => XS.i2dS X1.here hx rfl (hb hby at_6) rfl rfl k) ?_
  show Go p.tables e below s _ _ _ (T1.setTop (mkF m 7 #[.val (.int p1), .val (.int p2), .val (.int p3), .val (.int p4), .val (.int p5), .val (.int p6), .unset, .unset, .unset] [(.double (FP.i2d p1)), (.long (0 : Int64)), (.ref b1), (.ref b1)]))
  refine Go.on (fun t k => XS.iloadN X1.here hx rfl (hb hby at_7) rfl k) ?_
  show Go p.tables e below s _ _ _ (T1.setTop (mkF m 8 #[.val (.int p1), .val (.int p2), .val (.int p3), .val (.int p4), .val (.int p5), .val (.int p6), .unset, .unset, .unset] [(.int p2), (.double (FP.i2d p1)), (.long (0 : Int64)), (.ref b1), (.ref b1)]))
  refine Go.on (fun t k => XS.i2dS X1.here hx rfl (hb hby at_8) rfl rfl k) ?_
  show Go p.tables e below s _ _ _ (T1.setTop (mkF m 9 #[.val (.int p1), .val (.int p2), .val (.int p3), .val (.int p4), .val (.int p5), .val (.int p6), .unset, .unset, .unset] [(.double (FP.i2d p2)), (.double (FP.i2d p1)), (.long (0 : Int64)), (.ref b1), (.ref b1)]))
  refine Go.on (fun t k => XS.iloadN X1.here hx rfl (hb hby at_9) rfl k) ?_
  show Go p.tables e below s _ _ _ (T1.setTop (mkF m 10 #[.val (.int p1), .val (.int p2), .val (.int p3), .val (.int p4), .val (.int p5), .val (.int p6), .unset, .unset, .unset] [(.int p3), (.double (FP.i2d p2)), (.double (FP.i2d p1)), (.long (0 : Int64)), (.ref b1), (.ref b1)]))
  refine Go.on (fun t k => XS.i2dS X1.here hx rfl (hb hby at_10) rfl rfl k) ?_
  show Go p.tables e below s _ _ _ (T1.setTop (mkF m 11 #[.val (.int p1), .val (.int p2), .val (.int p3), .val (.int p4), .val (.int p5), .val (.int p6), .unset, .unset, .unset] [(.double (FP.i2d p3)), (.double (FP.i2d p2)), (.double (FP.i2d p1)), (.long (0 : Int64)), (.ref b1), (.ref b1)]))
  refine Go.on (fun t k => XS.iloadN X1.here hx rfl (hb hby at_11) rfl k) ?_
  show Go p.tables e below s _ _ _ (T1.setTop (mkF m 12 #[.val (.int p1), .val (.int p2), .val (.int p3), .val (.int p4), .val (.int p5), .val (.int p6), .unset, .unset, .unset] [(.int p4), (.double (FP.i2d p3)), (.double (FP.i2d p2)), (.double (FP.i2d p1)), (.long (0 : Int64)), (.ref b1), (.ref b1)]))
  refine Go.on (fun t k => XS.i2dS X1.here hx rfl (hb hby at_12) rfl rfl k) ?_
  show Go p.tables e below s _ _ _ (T1.setTop (mkF m 13 #[.val (.int p1), .val (.int p2), .val (.int p3), .val (.int p4), .val (.int p5), .val (.int p6), .unset, .unset, .unset] [(.double (FP.i2d p4)), (.double (FP.i2d p3)), (.double (FP.i2d p2)), (.double (FP.i2d p1)), (.long (0 : Int64)), (.ref b1), (.ref b1)]))
  obtain ⟨_, _, ⟨T10, L10, k10, n10⟩, -, X10, ⟨Lc10, hQ10, l10, y10, z10⟩, st10⟩ := X1.specialBack hx (y := (⟨"com/example/gridshift/gridshift/Query", "<init>", "(JDDDD)V"⟩ : MethodName)) rfl hown (mvT hZ (hw _ (List.mem_of_getElem? (i := 3) rfl))) (mvT hZ (hw _ (List.mem_of_getElem? (i := 4) rfl))) (mvT hZ (hw _ (List.mem_of_getElem? (i := 5) rfl))) (by decide) (backOf (W := 1) (rm1 l Z a0 hw [] b1 (0 : Int64) (FP.i2d p1) (FP.i2d p2) (FP.i2d p3) (FP.i2d p4) (.long (0 : Int64)) (.double 0) (.double 0) (.double 0) (.double 0) h1 n0 Zp4 A1 ge2 Fid_5 FminLon_6 FminLat_7 FmaxLon_8 FmaxLat_9) hZ (hw _ (List.mem_of_getElem? (i := 5) rfl)) (hw _ (List.mem_of_getElem? (i := 2) rfl)) (by decide) (by decide)) (g := (mkF m 13 #[.val (.int p1), .val (.int p2), .val (.int p3), .val (.int p4), .val (.int p5), .val (.int p6), .unset, .unset, .unset] [(.double (FP.i2d p4)), (.double (FP.i2d p3)), (.double (FP.i2d p2)), (.double (FP.i2d p1)), (.long (0 : Int64)), (.ref b1), (.ref b1)])) rfl (by rw [hml]; rfl) (Steps.refl _) (a := b1) (argsL := [(.long (0 : Int64)), (.double (FP.i2d p1)), (.double (FP.i2d p2)), (.double (FP.i2d p3)), (.double (FP.i2d p4))]) (rest := [(.ref b1)]) (lenOf pd__40_JDDDD_41_V rfl) rfl (by show 2 * 0 + _ ≤ _; exact Nat.le_of_eq rfl) (hb hby at_13) (fun _ _ => ⟨rfl, e1, (by decide : (0 + 1) + 0 ≤ _), (by decide : (0 + 5) + 0 ≤ _)⟩)
  dsimp only [Pt.U, Pt.locs, Pt.cells, Pt.slots] at X10 l10 y10 z10 st10 hQ10
  subst l10 y10 z10
  obtain ⟨rfl, Nq10, Kq10, P10_0, P10_1, P10_2, P10_3, P10_4⟩ := hQ10
  have A1_11 := A1.keep Kq10
  have Zp12 := Nat.le_trans Zp4 Kq10.1
  have Np13 := Fr.app N0 Nq10
  refine Go.via st10 ?_
  show Go p.tables e below s _ _ _ (T10.setTop (mkF m 16 #[.val (.int p1), .val (.int p2), .val (.int p3), .val (.int p4), .val (.int p5), .val (.int p6), .unset, .unset, .unset] [(.ref b1)]))
  refine Go.on (fun t k => XS.astore X10.here hx rfl (hb hby at_16) rfl rfl (l' := #[.val (.int p1), .val (.int p2), .val (.int p3), .val (.int p4), .val (.int p5), .val (.int p6), .val (.ref b1), .unset, .unset]) rfl k) ?_
  show Go p.tables e below s _ _ _ (T10.setTop (mkF m 18 #[.val (.int p1), .val (.int p2), .val (.int p3), .val (.int p4), .val (.int p5), .val (.int p6), .val (.ref b1), .unset, .unset] []))
  refine Go.on (fun t k => XS.aload X10.here hx rfl (hb hby at_18) rfl rfl k) ?_
  show Go p.tables e below s _ _ _ (T10.setTop (mkF m 20 #[.val (.int p1), .val (.int p2), .val (.int p3), .val (.int p4), .val (.int p5), .val (.int p6), .val (.ref b1), .unset, .unset] [(.ref b1)]))
  refine Go.on (fun t k => XS.iload X10.here hx rfl (hb hby at_20) rfl k) ?_
  show Go p.tables e below s _ _ _ (T10.setTop (mkF m 22 #[.val (.int p1), .val (.int p2), .val (.int p3), .val (.int p4), .val (.int p5), .val (.int p6), .val (.ref b1), .unset, .unset] [(.int p5), (.ref b1)]))
  refine Go.on (fun t k => XS.i2dS X10.here hx rfl (hb hby at_22) rfl rfl k) ?_
  show Go p.tables e below s _ _ _ (T10.setTop (mkF m 23 #[.val (.int p1), .val (.int p2), .val (.int p3), .val (.int p4), .val (.int p5), .val (.int p6), .val (.ref b1), .unset, .unset] [(.double (FP.i2d p5)), (.ref b1)]))
  refine Go.on (fun t k => XS.iload X10.here hx rfl (hb hby at_23) rfl k) ?_
  show Go p.tables e below s _ _ _ (T10.setTop (mkF m 25 #[.val (.int p1), .val (.int p2), .val (.int p3), .val (.int p4), .val (.int p5), .val (.int p6), .val (.ref b1), .unset, .unset] [(.int p6), (.double (FP.i2d p5)), (.ref b1)]))
  refine Go.on (fun t k => XS.i2dS X10.here hx rfl (hb hby at_25) rfl rfl k) ?_
  show Go p.tables e below s _ _ _ (T10.setTop (mkF m 26 #[.val (.int p1), .val (.int p2), .val (.int p3), .val (.int p4), .val (.int p5), .val (.int p6), .val (.ref b1), .unset, .unset] [(.double (FP.i2d p6)), (.double (FP.i2d p5)), (.ref b1)]))
  obtain ⟨cq14, kq14, q14a, q14b, q14c⟩ := isOf hZ rfl A1_11
  obtain ⟨_, _, ⟨T14, L14, k14, n14⟩, -, X14, ⟨Lc14, hQ14, l14, y14, z14⟩, st14⟩ := X10.virtualBack hx (y := (⟨"com/example/gridshift/gridshift/Query", "contains", "(DD)Z"⟩ : MethodName)) (z := (⟨"com/example/gridshift/gridshift/Query", "contains", "(DD)Z"⟩ : MethodName)) hown (mvT hZ (hw _ (List.mem_of_getElem? (i := 24) rfl))) (mvT hZ (hw _ (List.mem_of_getElem? (i := 25) rfl))) (notFace_of_selects (args := #[]) (mvT hZ (hw _ (List.mem_of_getElem? (i := 27) rfl)))) (mvT hZ (hw _ (List.mem_of_getElem? (i := 27) rfl))) (mvT hZ (hw _ (List.mem_of_getElem? (i := 26) rfl))) (by decide) (backOf (W := 0) (rm4 l Z a0 hw [] b1 (FP.i2d p5) (FP.i2d p6) p1 p2 p3 p4 p5 p6 T10.heap n0 Zp12 P10_1 P10_2 P10_3 P10_4 rfl rfl) hZ (hw _ (List.mem_of_getElem? (i := 28) rfl)) (hw _ (List.mem_of_getElem? (i := 2) rfl)) (by decide) (by decide)) q14a q14c (g := (mkF m 26 #[.val (.int p1), .val (.int p2), .val (.int p3), .val (.int p4), .val (.int p5), .val (.int p6), .val (.ref b1), .unset, .unset] [(.double (FP.i2d p6)), (.double (FP.i2d p5)), (.ref b1)])) rfl (by rw [hml]; rfl) (Steps.refl _) (argsL := [(.double (FP.i2d p5)), (.double (FP.i2d p6))]) (rest := []) (lenOf pd__40_DD_41_Z rfl) rfl (by show 2 * 0 + _ ≤ _; exact Nat.le_of_eq rfl) (hb hby at_26) (fun _ _ => ⟨rfl, rfl, (by decide : ((0 + 1) + 0) + 0 ≤ _), (by decide : ((0 + 5) + 0) + 0 ≤ _)⟩)
  dsimp only [Pt.U, Pt.locs, Pt.cells, Pt.slots] at X14 l14 y14 z14 st14 hQ14
  subst l14 y14 z14
  obtain ⟨rfl, Nq14, e14⟩ := hQ14
  have Np15 := Fr.app Np13 Nq14
  refine Go.via st14 ?_
  show Go p.tables e below s _ _ _ (T14.setTop (mkF m 29 #[.val (.int p1), .val (.int p2), .val (.int p3), .val (.int p4), .val (.int p5), .val (.int p6), .val (.ref b1), .unset, .unset] [(.int (own_b (¬ (0 : Int32) < lcmpW p1.toInt64 p5.toInt64 ∧ ¬ (0 : Int32) < lcmpW p5.toInt64 p3.toInt64 ∧ ¬ (0 : Int32) < lcmpW p2.toInt64 p6.toInt64 ∧ ¬ (0 : Int32) < lcmpW p6.toInt64 p4.toInt64)))]))
  refine Go.on (fun t k => XS.istore X14.here hx rfl (hb hby at_29) rfl (l' := #[.val (.int p1), .val (.int p2), .val (.int p3), .val (.int p4), .val (.int p5), .val (.int p6), .val (.ref b1), .val (.int (own_b (¬ (0 : Int32) < lcmpW p1.toInt64 p5.toInt64 ∧ ¬ (0 : Int32) < lcmpW p5.toInt64 p3.toInt64 ∧ ¬ (0 : Int32) < lcmpW p2.toInt64 p6.toInt64 ∧ ¬ (0 : Int32) < lcmpW p6.toInt64 p4.toInt64))), .unset]) rfl k) ?_
  show Go p.tables e below s _ _ _ (T14.setTop (mkF m 31 #[.val (.int p1), .val (.int p2), .val (.int p3), .val (.int p4), .val (.int p5), .val (.int p6), .val (.ref b1), .val (.int (own_b (¬ (0 : Int32) < lcmpW p1.toInt64 p5.toInt64 ∧ ¬ (0 : Int32) < lcmpW p5.toInt64 p3.toInt64 ∧ ¬ (0 : Int32) < lcmpW p2.toInt64 p6.toInt64 ∧ ¬ (0 : Int32) < lcmpW p6.toInt64 p4.toInt64))), .unset] []))
  refine Go.on (fun t k => XS.iloadN X14.here hx rfl (hb hby at_31) rfl k) ?_
  show Go p.tables e below s _ _ _ (T14.setTop (mkF m 32 #[.val (.int p1), .val (.int p2), .val (.int p3), .val (.int p4), .val (.int p5), .val (.int p6), .val (.ref b1), .val (.int (own_b (¬ (0 : Int32) < lcmpW p1.toInt64 p5.toInt64 ∧ ¬ (0 : Int32) < lcmpW p5.toInt64 p3.toInt64 ∧ ¬ (0 : Int32) < lcmpW p2.toInt64 p6.toInt64 ∧ ¬ (0 : Int32) < lcmpW p6.toInt64 p4.toInt64))), .unset] [(.int p1)]))
  refine Go.on (fun t k => XS.iloadN X14.here hx rfl (hb hby at_32) rfl k) ?_
  show Go p.tables e below s _ _ _ (T14.setTop (mkF m 33 #[.val (.int p1), .val (.int p2), .val (.int p3), .val (.int p4), .val (.int p5), .val (.int p6), .val (.ref b1), .val (.int (own_b (¬ (0 : Int32) < lcmpW p1.toInt64 p5.toInt64 ∧ ¬ (0 : Int32) < lcmpW p5.toInt64 p3.toInt64 ∧ ¬ (0 : Int32) < lcmpW p2.toInt64 p6.toInt64 ∧ ¬ (0 : Int32) < lcmpW p6.toInt64 p4.toInt64))), .unset] [(.int p3), (.int p1)]))
  refine Go.on (fun t k => XS.iload X14.here hx rfl (hb hby at_33) rfl k) ?_
  show Go p.tables e below s _ _ _ (T14.setTop (mkF m 35 #[.val (.int p1), .val (.int p2), .val (.int p3), .val (.int p4), .val (.int p5), .val (.int p6), .val (.ref b1), .val (.int (own_b (¬ (0 : Int32) < lcmpW p1.toInt64 p5.toInt64 ∧ ¬ (0 : Int32) < lcmpW p5.toInt64 p3.toInt64 ∧ ¬ (0 : Int32) < lcmpW p2.toInt64 p6.toInt64 ∧ ¬ (0 : Int32) < lcmpW p6.toInt64 p4.toInt64))), .unset] [(.int p5), (.int p3), (.int p1)]))
  obtain ⟨_, _, ⟨T16, L16, k16, n16⟩, -, X16, ⟨Lc16, hQ16, l16, y16, z16⟩, st16⟩ := Jvm.LawKit.callS X14 hx (y := (⟨"com/example/gridshift/gridshift/QueryContainsPinLaw", "within", "(III)Z"⟩ : MethodName)) hown (mvT hZ (hw _ (List.mem_of_getElem? (i := 29) rfl))) (mvT hZ (hw _ (List.mem_of_getElem? (i := 30) rfl))) (mvT hZ (hw _ (List.mem_of_getElem? (i := 31) rfl))) (mvT hZ (hw _ (List.mem_of_getElem? (i := 32) rfl))) (by decide) (backOf (W := 0) (rm5 l Z a0 hw [] p1 p3 p5 T10.heap n0 Zp12 ) hZ (hw _ (List.mem_of_getElem? (i := 32) rfl)) (hw _ (List.mem_of_getElem? (i := 31) rfl)) (by decide) (by decide)) (g := (mkF m 35 #[.val (.int p1), .val (.int p2), .val (.int p3), .val (.int p4), .val (.int p5), .val (.int p6), .val (.ref b1), .val (.int (own_b (¬ (0 : Int32) < lcmpW p1.toInt64 p5.toInt64 ∧ ¬ (0 : Int32) < lcmpW p5.toInt64 p3.toInt64 ∧ ¬ (0 : Int32) < lcmpW p2.toInt64 p6.toInt64 ∧ ¬ (0 : Int32) < lcmpW p6.toInt64 p4.toInt64))), .unset] [(.int p5), (.int p3), (.int p1)])) rfl (by rw [hml]; rfl) (argsL := [(.int p1), (.int p3), (.int p5)]) (rest := []) (lenOf pd__40_III_41_Z rfl) rfl (by show 2 * 0 + _ ≤ _; exact Nat.le_of_eq rfl) (hb hby at_35) (fun _ _ => ⟨rfl, e14, (by decide : (((0 + 1) + 0) + 0) + 0 ≤ _), (by decide : (((0 + 5) + 0) + 0) + 0 ≤ _)⟩)
  dsimp only [Pt.U, Pt.locs, Pt.cells, Pt.slots] at X16 l16 y16 z16 st16 hQ16
  subst l16 y16 z16
  obtain ⟨rfl, Nq16, e16⟩ := hQ16
  have Np17 := Fr.app Np15 Nq16
  refine Go.on st16 ?_
  show Go p.tables e below s _ _ _ (T16.setTop (mkF m 38 #[.val (.int p1), .val (.int p2), .val (.int p3), .val (.int p4), .val (.int p5), .val (.int p6), .val (.ref b1), .val (.int (own_b (¬ (0 : Int32) < lcmpW p1.toInt64 p5.toInt64 ∧ ¬ (0 : Int32) < lcmpW p5.toInt64 p3.toInt64 ∧ ¬ (0 : Int32) < lcmpW p2.toInt64 p6.toInt64 ∧ ¬ (0 : Int32) < lcmpW p6.toInt64 p4.toInt64))), .unset] [(.int (own_b (¬ lcmpW (p5.toInt64 - p1.toInt64) (0 : Int64) < (0 : Int32) ∧ ¬ lcmpW (p3.toInt64 - p5.toInt64) (0 : Int64) < (0 : Int32))))]))
  by_cases hc38_18 : (own_b (¬ lcmpW (p5.toInt64 - p1.toInt64) (0 : Int64) < (0 : Int32) ∧ ¬ lcmpW (p3.toInt64 - p5.toInt64) (0 : Int64) < (0 : Int32))) = (0 : Int32)
  · refine Go.on (fun t k => XS.ifYes X16.here hx rfl (pc0 := 38) (pc' := 55) rfl (hb hby at_38) rfl ((if0 _ _).trans (teq hc38_18).1) (by decide) (by decide) k) ?_
    show Go p.tables e below s _ _ _ (T16.setTop (mkF m 55 #[.val (.int p1), .val (.int p2), .val (.int p3), .val (.int p4), .val (.int p5), .val (.int p6), .val (.ref b1), .val (.int (own_b (¬ (0 : Int32) < lcmpW p1.toInt64 p5.toInt64 ∧ ¬ (0 : Int32) < lcmpW p5.toInt64 p3.toInt64 ∧ ¬ (0 : Int32) < lcmpW p2.toInt64 p6.toInt64 ∧ ¬ (0 : Int32) < lcmpW p6.toInt64 p4.toInt64))), .unset] []))
    refine Go.on (fun t k => XS.iconst X16.here hx rfl (hb hby at_55) k) ?_
    show Go p.tables e below s _ _ _ (T16.setTop (mkF m 56 #[.val (.int p1), .val (.int p2), .val (.int p3), .val (.int p4), .val (.int p5), .val (.int p6), .val (.ref b1), .val (.int (own_b (¬ (0 : Int32) < lcmpW p1.toInt64 p5.toInt64 ∧ ¬ (0 : Int32) < lcmpW p5.toInt64 p3.toInt64 ∧ ¬ (0 : Int32) < lcmpW p2.toInt64 p6.toInt64 ∧ ¬ (0 : Int32) < lcmpW p6.toInt64 p4.toInt64))), .unset] [(.int (0 : Int32))]))
    refine Go.on (fun t k => XS.istore X16.here hx rfl (hb hby at_56) rfl (l' := #[.val (.int p1), .val (.int p2), .val (.int p3), .val (.int p4), .val (.int p5), .val (.int p6), .val (.ref b1), .val (.int (own_b (¬ (0 : Int32) < lcmpW p1.toInt64 p5.toInt64 ∧ ¬ (0 : Int32) < lcmpW p5.toInt64 p3.toInt64 ∧ ¬ (0 : Int32) < lcmpW p2.toInt64 p6.toInt64 ∧ ¬ (0 : Int32) < lcmpW p6.toInt64 p4.toInt64))), .val (.int (0 : Int32))]) rfl k) ?_
    show Go p.tables e below s _ _ _ (T16.setTop (mkF m 58 #[.val (.int p1), .val (.int p2), .val (.int p3), .val (.int p4), .val (.int p5), .val (.int p6), .val (.ref b1), .val (.int (own_b (¬ (0 : Int32) < lcmpW p1.toInt64 p5.toInt64 ∧ ¬ (0 : Int32) < lcmpW p5.toInt64 p3.toInt64 ∧ ¬ (0 : Int32) < lcmpW p2.toInt64 p6.toInt64 ∧ ¬ (0 : Int32) < lcmpW p6.toInt64 p4.toInt64))), .val (.int (0 : Int32))] []))
    refine Go.on (fun t k => XS.iload X16.here hx rfl (hb hby at_58) rfl k) ?_
    show Go p.tables e below s _ _ _ (T16.setTop (mkF m 60 #[.val (.int p1), .val (.int p2), .val (.int p3), .val (.int p4), .val (.int p5), .val (.int p6), .val (.ref b1), .val (.int (own_b (¬ (0 : Int32) < lcmpW p1.toInt64 p5.toInt64 ∧ ¬ (0 : Int32) < lcmpW p5.toInt64 p3.toInt64 ∧ ¬ (0 : Int32) < lcmpW p2.toInt64 p6.toInt64 ∧ ¬ (0 : Int32) < lcmpW p6.toInt64 p4.toInt64))), .val (.int (0 : Int32))] [(.int (own_b (¬ (0 : Int32) < lcmpW p1.toInt64 p5.toInt64 ∧ ¬ (0 : Int32) < lcmpW p5.toInt64 p3.toInt64 ∧ ¬ (0 : Int32) < lcmpW p2.toInt64 p6.toInt64 ∧ ¬ (0 : Int32) < lcmpW p6.toInt64 p4.toInt64)))]))
    refine Go.on (fun t k => XS.iload X16.here hx rfl (hb hby at_60) rfl k) ?_
    show Go p.tables e below s _ _ _ (T16.setTop (mkF m 62 #[.val (.int p1), .val (.int p2), .val (.int p3), .val (.int p4), .val (.int p5), .val (.int p6), .val (.ref b1), .val (.int (own_b (¬ (0 : Int32) < lcmpW p1.toInt64 p5.toInt64 ∧ ¬ (0 : Int32) < lcmpW p5.toInt64 p3.toInt64 ∧ ¬ (0 : Int32) < lcmpW p2.toInt64 p6.toInt64 ∧ ¬ (0 : Int32) < lcmpW p6.toInt64 p4.toInt64))), .val (.int (0 : Int32))] [(.int (0 : Int32)), (.int (own_b (¬ (0 : Int32) < lcmpW p1.toInt64 p5.toInt64 ∧ ¬ (0 : Int32) < lcmpW p5.toInt64 p3.toInt64 ∧ ¬ (0 : Int32) < lcmpW p2.toInt64 p6.toInt64 ∧ ¬ (0 : Int32) < lcmpW p6.toInt64 p4.toInt64)))]))
    refine Go.on (fun t k => XS.icmpNo X16.here hx rfl (hb hby at_62) rfl (teq (own_bf fun q => own_b0 hc38_18 ⟨(own_lo _ _).mpr q.1, (own_lo _ _).mpr q.2.1⟩)).2 k) ?_
    show Go p.tables e below s _ _ _ (T16.setTop (mkF m 65 #[.val (.int p1), .val (.int p2), .val (.int p3), .val (.int p4), .val (.int p5), .val (.int p6), .val (.ref b1), .val (.int (own_b (¬ (0 : Int32) < lcmpW p1.toInt64 p5.toInt64 ∧ ¬ (0 : Int32) < lcmpW p5.toInt64 p3.toInt64 ∧ ¬ (0 : Int32) < lcmpW p2.toInt64 p6.toInt64 ∧ ¬ (0 : Int32) < lcmpW p6.toInt64 p4.toInt64))), .val (.int (0 : Int32))] []))
    refine Go.on (fun t k => XS.iconst X16.here hx rfl (hb hby at_65) k) ?_
    show Go p.tables e below s _ _ _ (T16.setTop (mkF m 66 #[.val (.int p1), .val (.int p2), .val (.int p3), .val (.int p4), .val (.int p5), .val (.int p6), .val (.ref b1), .val (.int (own_b (¬ (0 : Int32) < lcmpW p1.toInt64 p5.toInt64 ∧ ¬ (0 : Int32) < lcmpW p5.toInt64 p3.toInt64 ∧ ¬ (0 : Int32) < lcmpW p2.toInt64 p6.toInt64 ∧ ¬ (0 : Int32) < lcmpW p6.toInt64 p4.toInt64))), .val (.int (0 : Int32))] [(.int (1 : Int32))]))
    refine Go.on (fun t k => XS.goto X16.here hx rfl (pc0 := 66) (pc' := 70) rfl (hb hby at_66) (by decide) (by decide) k) ?_
    show Go p.tables e below s _ _ _ (T16.setTop (mkF m 70 #[.val (.int p1), .val (.int p2), .val (.int p3), .val (.int p4), .val (.int p5), .val (.int p6), .val (.ref b1), .val (.int (own_b (¬ (0 : Int32) < lcmpW p1.toInt64 p5.toInt64 ∧ ¬ (0 : Int32) < lcmpW p5.toInt64 p3.toInt64 ∧ ¬ (0 : Int32) < lcmpW p2.toInt64 p6.toInt64 ∧ ¬ (0 : Int32) < lcmpW p6.toInt64 p4.toInt64))), .val (.int (0 : Int32))] [(.int (1 : Int32))]))
    refine Go.retN X16 hx hlk (t := .boolean) Bd.returns (by simp) (hb hby at_70) (by decide) (by decide) e16 ?_
    exact ⟨rfl, Np17⟩
  · refine Go.on (fun t k => XS.ifNo X16.here hx rfl (hb hby at_38) rfl ((if0 _ _).trans (feq hc38_18).1) k) ?_
    show Go p.tables e below s _ _ _ (T16.setTop (mkF m 41 #[.val (.int p1), .val (.int p2), .val (.int p3), .val (.int p4), .val (.int p5), .val (.int p6), .val (.ref b1), .val (.int (own_b (¬ (0 : Int32) < lcmpW p1.toInt64 p5.toInt64 ∧ ¬ (0 : Int32) < lcmpW p5.toInt64 p3.toInt64 ∧ ¬ (0 : Int32) < lcmpW p2.toInt64 p6.toInt64 ∧ ¬ (0 : Int32) < lcmpW p6.toInt64 p4.toInt64))), .unset] []))
    refine Go.on (fun t k => XS.iloadN X16.here hx rfl (hb hby at_41) rfl k) ?_
    show Go p.tables e below s _ _ _ (T16.setTop (mkF m 42 #[.val (.int p1), .val (.int p2), .val (.int p3), .val (.int p4), .val (.int p5), .val (.int p6), .val (.ref b1), .val (.int (own_b (¬ (0 : Int32) < lcmpW p1.toInt64 p5.toInt64 ∧ ¬ (0 : Int32) < lcmpW p5.toInt64 p3.toInt64 ∧ ¬ (0 : Int32) < lcmpW p2.toInt64 p6.toInt64 ∧ ¬ (0 : Int32) < lcmpW p6.toInt64 p4.toInt64))), .unset] [(.int p2)]))
    refine Go.on (fun t k => XS.iloadN X16.here hx rfl (hb hby at_42) rfl k) ?_
    show Go p.tables e below s _ _ _ (T16.setTop (mkF m 43 #[.val (.int p1), .val (.int p2), .val (.int p3), .val (.int p4), .val (.int p5), .val (.int p6), .val (.ref b1), .val (.int (own_b (¬ (0 : Int32) < lcmpW p1.toInt64 p5.toInt64 ∧ ¬ (0 : Int32) < lcmpW p5.toInt64 p3.toInt64 ∧ ¬ (0 : Int32) < lcmpW p2.toInt64 p6.toInt64 ∧ ¬ (0 : Int32) < lcmpW p6.toInt64 p4.toInt64))), .unset] [(.int p4), (.int p2)]))
    refine Go.on (fun t k => XS.iload X16.here hx rfl (hb hby at_43) rfl k) ?_
    show Go p.tables e below s _ _ _ (T16.setTop (mkF m 45 #[.val (.int p1), .val (.int p2), .val (.int p3), .val (.int p4), .val (.int p5), .val (.int p6), .val (.ref b1), .val (.int (own_b (¬ (0 : Int32) < lcmpW p1.toInt64 p5.toInt64 ∧ ¬ (0 : Int32) < lcmpW p5.toInt64 p3.toInt64 ∧ ¬ (0 : Int32) < lcmpW p2.toInt64 p6.toInt64 ∧ ¬ (0 : Int32) < lcmpW p6.toInt64 p4.toInt64))), .unset] [(.int p6), (.int p4), (.int p2)]))
    obtain ⟨_, _, ⟨T19, L19, k19, n19⟩, -, X19, ⟨Lc19, hQ19, l19, y19, z19⟩, st19⟩ := Jvm.LawKit.callS X16 hx (y := (⟨"com/example/gridshift/gridshift/QueryContainsPinLaw", "within", "(III)Z"⟩ : MethodName)) hown (mvT hZ (hw _ (List.mem_of_getElem? (i := 29) rfl))) (mvT hZ (hw _ (List.mem_of_getElem? (i := 30) rfl))) (mvT hZ (hw _ (List.mem_of_getElem? (i := 31) rfl))) (mvT hZ (hw _ (List.mem_of_getElem? (i := 32) rfl))) (by decide) (backOf (W := 0) (rm5 l Z a0 hw [] p2 p4 p6 T10.heap n0 Zp12 ) hZ (hw _ (List.mem_of_getElem? (i := 32) rfl)) (hw _ (List.mem_of_getElem? (i := 31) rfl)) (by decide) (by decide)) (g := (mkF m 45 #[.val (.int p1), .val (.int p2), .val (.int p3), .val (.int p4), .val (.int p5), .val (.int p6), .val (.ref b1), .val (.int (own_b (¬ (0 : Int32) < lcmpW p1.toInt64 p5.toInt64 ∧ ¬ (0 : Int32) < lcmpW p5.toInt64 p3.toInt64 ∧ ¬ (0 : Int32) < lcmpW p2.toInt64 p6.toInt64 ∧ ¬ (0 : Int32) < lcmpW p6.toInt64 p4.toInt64))), .unset] [(.int p6), (.int p4), (.int p2)])) rfl (by rw [hml]; rfl) (argsL := [(.int p2), (.int p4), (.int p6)]) (rest := []) (lenOf pd__40_III_41_Z rfl) rfl (by show 2 * 0 + _ ≤ _; exact Nat.le_of_eq rfl) (hb hby at_45) (fun _ _ => ⟨rfl, e16, (by decide : ((((0 + 1) + 0) + 0) + 0) + 0 ≤ _), (by decide : ((((0 + 5) + 0) + 0) + 0) + 0 ≤ _)⟩)
    dsimp only [Pt.U, Pt.locs, Pt.cells, Pt.slots] at X19 l19 y19 z19 st19 hQ19
    subst l19 y19 z19
    obtain ⟨rfl, Nq19, e19⟩ := hQ19
    have Np20 := Fr.app Np17 Nq19
    refine Go.on st19 ?_
    show Go p.tables e below s _ _ _ (T19.setTop (mkF m 48 #[.val (.int p1), .val (.int p2), .val (.int p3), .val (.int p4), .val (.int p5), .val (.int p6), .val (.ref b1), .val (.int (own_b (¬ (0 : Int32) < lcmpW p1.toInt64 p5.toInt64 ∧ ¬ (0 : Int32) < lcmpW p5.toInt64 p3.toInt64 ∧ ¬ (0 : Int32) < lcmpW p2.toInt64 p6.toInt64 ∧ ¬ (0 : Int32) < lcmpW p6.toInt64 p4.toInt64))), .unset] [(.int (own_b (¬ lcmpW (p6.toInt64 - p2.toInt64) (0 : Int64) < (0 : Int32) ∧ ¬ lcmpW (p4.toInt64 - p6.toInt64) (0 : Int64) < (0 : Int32))))]))
    by_cases hc48_21 : (own_b (¬ lcmpW (p6.toInt64 - p2.toInt64) (0 : Int64) < (0 : Int32) ∧ ¬ lcmpW (p4.toInt64 - p6.toInt64) (0 : Int64) < (0 : Int32))) = (0 : Int32)
    · refine Go.on (fun t k => XS.ifYes X19.here hx rfl (pc0 := 48) (pc' := 55) rfl (hb hby at_48) rfl ((if0 _ _).trans (teq hc48_21).1) (by decide) (by decide) k) ?_
      show Go p.tables e below s _ _ _ (T19.setTop (mkF m 55 #[.val (.int p1), .val (.int p2), .val (.int p3), .val (.int p4), .val (.int p5), .val (.int p6), .val (.ref b1), .val (.int (own_b (¬ (0 : Int32) < lcmpW p1.toInt64 p5.toInt64 ∧ ¬ (0 : Int32) < lcmpW p5.toInt64 p3.toInt64 ∧ ¬ (0 : Int32) < lcmpW p2.toInt64 p6.toInt64 ∧ ¬ (0 : Int32) < lcmpW p6.toInt64 p4.toInt64))), .unset] []))
      refine Go.on (fun t k => XS.iconst X19.here hx rfl (hb hby at_55) k) ?_
      show Go p.tables e below s _ _ _ (T19.setTop (mkF m 56 #[.val (.int p1), .val (.int p2), .val (.int p3), .val (.int p4), .val (.int p5), .val (.int p6), .val (.ref b1), .val (.int (own_b (¬ (0 : Int32) < lcmpW p1.toInt64 p5.toInt64 ∧ ¬ (0 : Int32) < lcmpW p5.toInt64 p3.toInt64 ∧ ¬ (0 : Int32) < lcmpW p2.toInt64 p6.toInt64 ∧ ¬ (0 : Int32) < lcmpW p6.toInt64 p4.toInt64))), .unset] [(.int (0 : Int32))]))
      refine Go.on (fun t k => XS.istore X19.here hx rfl (hb hby at_56) rfl (l' := #[.val (.int p1), .val (.int p2), .val (.int p3), .val (.int p4), .val (.int p5), .val (.int p6), .val (.ref b1), .val (.int (own_b (¬ (0 : Int32) < lcmpW p1.toInt64 p5.toInt64 ∧ ¬ (0 : Int32) < lcmpW p5.toInt64 p3.toInt64 ∧ ¬ (0 : Int32) < lcmpW p2.toInt64 p6.toInt64 ∧ ¬ (0 : Int32) < lcmpW p6.toInt64 p4.toInt64))), .val (.int (0 : Int32))]) rfl k) ?_
      show Go p.tables e below s _ _ _ (T19.setTop (mkF m 58 #[.val (.int p1), .val (.int p2), .val (.int p3), .val (.int p4), .val (.int p5), .val (.int p6), .val (.ref b1), .val (.int (own_b (¬ (0 : Int32) < lcmpW p1.toInt64 p5.toInt64 ∧ ¬ (0 : Int32) < lcmpW p5.toInt64 p3.toInt64 ∧ ¬ (0 : Int32) < lcmpW p2.toInt64 p6.toInt64 ∧ ¬ (0 : Int32) < lcmpW p6.toInt64 p4.toInt64))), .val (.int (0 : Int32))] []))
      refine Go.on (fun t k => XS.iload X19.here hx rfl (hb hby at_58) rfl k) ?_
      show Go p.tables e below s _ _ _ (T19.setTop (mkF m 60 #[.val (.int p1), .val (.int p2), .val (.int p3), .val (.int p4), .val (.int p5), .val (.int p6), .val (.ref b1), .val (.int (own_b (¬ (0 : Int32) < lcmpW p1.toInt64 p5.toInt64 ∧ ¬ (0 : Int32) < lcmpW p5.toInt64 p3.toInt64 ∧ ¬ (0 : Int32) < lcmpW p2.toInt64 p6.toInt64 ∧ ¬ (0 : Int32) < lcmpW p6.toInt64 p4.toInt64))), .val (.int (0 : Int32))] [(.int (own_b (¬ (0 : Int32) < lcmpW p1.toInt64 p5.toInt64 ∧ ¬ (0 : Int32) < lcmpW p5.toInt64 p3.toInt64 ∧ ¬ (0 : Int32) < lcmpW p2.toInt64 p6.toInt64 ∧ ¬ (0 : Int32) < lcmpW p6.toInt64 p4.toInt64)))]))
      refine Go.on (fun t k => XS.iload X19.here hx rfl (hb hby at_60) rfl k) ?_
      show Go p.tables e below s _ _ _ (T19.setTop (mkF m 62 #[.val (.int p1), .val (.int p2), .val (.int p3), .val (.int p4), .val (.int p5), .val (.int p6), .val (.ref b1), .val (.int (own_b (¬ (0 : Int32) < lcmpW p1.toInt64 p5.toInt64 ∧ ¬ (0 : Int32) < lcmpW p5.toInt64 p3.toInt64 ∧ ¬ (0 : Int32) < lcmpW p2.toInt64 p6.toInt64 ∧ ¬ (0 : Int32) < lcmpW p6.toInt64 p4.toInt64))), .val (.int (0 : Int32))] [(.int (0 : Int32)), (.int (own_b (¬ (0 : Int32) < lcmpW p1.toInt64 p5.toInt64 ∧ ¬ (0 : Int32) < lcmpW p5.toInt64 p3.toInt64 ∧ ¬ (0 : Int32) < lcmpW p2.toInt64 p6.toInt64 ∧ ¬ (0 : Int32) < lcmpW p6.toInt64 p4.toInt64)))]))
      refine Go.on (fun t k => XS.icmpNo X19.here hx rfl (hb hby at_62) rfl (teq (own_bf fun q => own_b0 hc48_21 ⟨(own_lo _ _).mpr q.2.2.1, (own_lo _ _).mpr q.2.2.2⟩)).2 k) ?_
      show Go p.tables e below s _ _ _ (T19.setTop (mkF m 65 #[.val (.int p1), .val (.int p2), .val (.int p3), .val (.int p4), .val (.int p5), .val (.int p6), .val (.ref b1), .val (.int (own_b (¬ (0 : Int32) < lcmpW p1.toInt64 p5.toInt64 ∧ ¬ (0 : Int32) < lcmpW p5.toInt64 p3.toInt64 ∧ ¬ (0 : Int32) < lcmpW p2.toInt64 p6.toInt64 ∧ ¬ (0 : Int32) < lcmpW p6.toInt64 p4.toInt64))), .val (.int (0 : Int32))] []))
      refine Go.on (fun t k => XS.iconst X19.here hx rfl (hb hby at_65) k) ?_
      show Go p.tables e below s _ _ _ (T19.setTop (mkF m 66 #[.val (.int p1), .val (.int p2), .val (.int p3), .val (.int p4), .val (.int p5), .val (.int p6), .val (.ref b1), .val (.int (own_b (¬ (0 : Int32) < lcmpW p1.toInt64 p5.toInt64 ∧ ¬ (0 : Int32) < lcmpW p5.toInt64 p3.toInt64 ∧ ¬ (0 : Int32) < lcmpW p2.toInt64 p6.toInt64 ∧ ¬ (0 : Int32) < lcmpW p6.toInt64 p4.toInt64))), .val (.int (0 : Int32))] [(.int (1 : Int32))]))
      refine Go.on (fun t k => XS.goto X19.here hx rfl (pc0 := 66) (pc' := 70) rfl (hb hby at_66) (by decide) (by decide) k) ?_
      show Go p.tables e below s _ _ _ (T19.setTop (mkF m 70 #[.val (.int p1), .val (.int p2), .val (.int p3), .val (.int p4), .val (.int p5), .val (.int p6), .val (.ref b1), .val (.int (own_b (¬ (0 : Int32) < lcmpW p1.toInt64 p5.toInt64 ∧ ¬ (0 : Int32) < lcmpW p5.toInt64 p3.toInt64 ∧ ¬ (0 : Int32) < lcmpW p2.toInt64 p6.toInt64 ∧ ¬ (0 : Int32) < lcmpW p6.toInt64 p4.toInt64))), .val (.int (0 : Int32))] [(.int (1 : Int32))]))
      refine Go.retN X19 hx hlk (t := .boolean) Bd.returns (by simp) (hb hby at_70) (by decide) (by decide) e19 ?_
      exact ⟨rfl, Np20⟩
    · refine Go.on (fun t k => XS.ifNo X19.here hx rfl (hb hby at_48) rfl ((if0 _ _).trans (feq hc48_21).1) k) ?_
      show Go p.tables e below s _ _ _ (T19.setTop (mkF m 51 #[.val (.int p1), .val (.int p2), .val (.int p3), .val (.int p4), .val (.int p5), .val (.int p6), .val (.ref b1), .val (.int (own_b (¬ (0 : Int32) < lcmpW p1.toInt64 p5.toInt64 ∧ ¬ (0 : Int32) < lcmpW p5.toInt64 p3.toInt64 ∧ ¬ (0 : Int32) < lcmpW p2.toInt64 p6.toInt64 ∧ ¬ (0 : Int32) < lcmpW p6.toInt64 p4.toInt64))), .unset] []))
      refine Go.on (fun t k => XS.iconst X19.here hx rfl (hb hby at_51) k) ?_
      show Go p.tables e below s _ _ _ (T19.setTop (mkF m 52 #[.val (.int p1), .val (.int p2), .val (.int p3), .val (.int p4), .val (.int p5), .val (.int p6), .val (.ref b1), .val (.int (own_b (¬ (0 : Int32) < lcmpW p1.toInt64 p5.toInt64 ∧ ¬ (0 : Int32) < lcmpW p5.toInt64 p3.toInt64 ∧ ¬ (0 : Int32) < lcmpW p2.toInt64 p6.toInt64 ∧ ¬ (0 : Int32) < lcmpW p6.toInt64 p4.toInt64))), .unset] [(.int (1 : Int32))]))
      refine Go.on (fun t k => XS.goto X19.here hx rfl (pc0 := 52) (pc' := 56) rfl (hb hby at_52) (by decide) (by decide) k) ?_
      show Go p.tables e below s _ _ _ (T19.setTop (mkF m 56 #[.val (.int p1), .val (.int p2), .val (.int p3), .val (.int p4), .val (.int p5), .val (.int p6), .val (.ref b1), .val (.int (own_b (¬ (0 : Int32) < lcmpW p1.toInt64 p5.toInt64 ∧ ¬ (0 : Int32) < lcmpW p5.toInt64 p3.toInt64 ∧ ¬ (0 : Int32) < lcmpW p2.toInt64 p6.toInt64 ∧ ¬ (0 : Int32) < lcmpW p6.toInt64 p4.toInt64))), .unset] [(.int (1 : Int32))]))
      refine Go.on (fun t k => XS.istore X19.here hx rfl (hb hby at_56) rfl (l' := #[.val (.int p1), .val (.int p2), .val (.int p3), .val (.int p4), .val (.int p5), .val (.int p6), .val (.ref b1), .val (.int (own_b (¬ (0 : Int32) < lcmpW p1.toInt64 p5.toInt64 ∧ ¬ (0 : Int32) < lcmpW p5.toInt64 p3.toInt64 ∧ ¬ (0 : Int32) < lcmpW p2.toInt64 p6.toInt64 ∧ ¬ (0 : Int32) < lcmpW p6.toInt64 p4.toInt64))), .val (.int (1 : Int32))]) rfl k) ?_
      show Go p.tables e below s _ _ _ (T19.setTop (mkF m 58 #[.val (.int p1), .val (.int p2), .val (.int p3), .val (.int p4), .val (.int p5), .val (.int p6), .val (.ref b1), .val (.int (own_b (¬ (0 : Int32) < lcmpW p1.toInt64 p5.toInt64 ∧ ¬ (0 : Int32) < lcmpW p5.toInt64 p3.toInt64 ∧ ¬ (0 : Int32) < lcmpW p2.toInt64 p6.toInt64 ∧ ¬ (0 : Int32) < lcmpW p6.toInt64 p4.toInt64))), .val (.int (1 : Int32))] []))
      refine Go.on (fun t k => XS.iload X19.here hx rfl (hb hby at_58) rfl k) ?_
      show Go p.tables e below s _ _ _ (T19.setTop (mkF m 60 #[.val (.int p1), .val (.int p2), .val (.int p3), .val (.int p4), .val (.int p5), .val (.int p6), .val (.ref b1), .val (.int (own_b (¬ (0 : Int32) < lcmpW p1.toInt64 p5.toInt64 ∧ ¬ (0 : Int32) < lcmpW p5.toInt64 p3.toInt64 ∧ ¬ (0 : Int32) < lcmpW p2.toInt64 p6.toInt64 ∧ ¬ (0 : Int32) < lcmpW p6.toInt64 p4.toInt64))), .val (.int (1 : Int32))] [(.int (own_b (¬ (0 : Int32) < lcmpW p1.toInt64 p5.toInt64 ∧ ¬ (0 : Int32) < lcmpW p5.toInt64 p3.toInt64 ∧ ¬ (0 : Int32) < lcmpW p2.toInt64 p6.toInt64 ∧ ¬ (0 : Int32) < lcmpW p6.toInt64 p4.toInt64)))]))
      refine Go.on (fun t k => XS.iload X19.here hx rfl (hb hby at_60) rfl k) ?_
      show Go p.tables e below s _ _ _ (T19.setTop (mkF m 62 #[.val (.int p1), .val (.int p2), .val (.int p3), .val (.int p4), .val (.int p5), .val (.int p6), .val (.ref b1), .val (.int (own_b (¬ (0 : Int32) < lcmpW p1.toInt64 p5.toInt64 ∧ ¬ (0 : Int32) < lcmpW p5.toInt64 p3.toInt64 ∧ ¬ (0 : Int32) < lcmpW p2.toInt64 p6.toInt64 ∧ ¬ (0 : Int32) < lcmpW p6.toInt64 p4.toInt64))), .val (.int (1 : Int32))] [(.int (1 : Int32)), (.int (own_b (¬ (0 : Int32) < lcmpW p1.toInt64 p5.toInt64 ∧ ¬ (0 : Int32) < lcmpW p5.toInt64 p3.toInt64 ∧ ¬ (0 : Int32) < lcmpW p2.toInt64 p6.toInt64 ∧ ¬ (0 : Int32) < lcmpW p6.toInt64 p4.toInt64)))]))
      refine Go.on (fun t k => XS.icmpNo X19.here hx rfl (hb hby at_62) rfl (teq (own_bt ⟨(own_lo _ _).mp (own_b1 hc38_18).1, (own_lo _ _).mp (own_b1 hc38_18).2, (own_lo _ _).mp (own_b1 hc48_21).1, (own_lo _ _).mp (own_b1 hc48_21).2⟩)).2 k) ?_
      show Go p.tables e below s _ _ _ (T19.setTop (mkF m 65 #[.val (.int p1), .val (.int p2), .val (.int p3), .val (.int p4), .val (.int p5), .val (.int p6), .val (.ref b1), .val (.int (own_b (¬ (0 : Int32) < lcmpW p1.toInt64 p5.toInt64 ∧ ¬ (0 : Int32) < lcmpW p5.toInt64 p3.toInt64 ∧ ¬ (0 : Int32) < lcmpW p2.toInt64 p6.toInt64 ∧ ¬ (0 : Int32) < lcmpW p6.toInt64 p4.toInt64))), .val (.int (1 : Int32))] []))
      refine Go.on (fun t k => XS.iconst X19.here hx rfl (hb hby at_65) k) ?_
      show Go p.tables e below s _ _ _ (T19.setTop (mkF m 66 #[.val (.int p1), .val (.int p2), .val (.int p3), .val (.int p4), .val (.int p5), .val (.int p6), .val (.ref b1), .val (.int (own_b (¬ (0 : Int32) < lcmpW p1.toInt64 p5.toInt64 ∧ ¬ (0 : Int32) < lcmpW p5.toInt64 p3.toInt64 ∧ ¬ (0 : Int32) < lcmpW p2.toInt64 p6.toInt64 ∧ ¬ (0 : Int32) < lcmpW p6.toInt64 p4.toInt64))), .val (.int (1 : Int32))] [(.int (1 : Int32))]))
      refine Go.on (fun t k => XS.goto X19.here hx rfl (pc0 := 66) (pc' := 70) rfl (hb hby at_66) (by decide) (by decide) k) ?_
      show Go p.tables e below s _ _ _ (T19.setTop (mkF m 70 #[.val (.int p1), .val (.int p2), .val (.int p3), .val (.int p4), .val (.int p5), .val (.int p6), .val (.ref b1), .val (.int (own_b (¬ (0 : Int32) < lcmpW p1.toInt64 p5.toInt64 ∧ ¬ (0 : Int32) < lcmpW p5.toInt64 p3.toInt64 ∧ ¬ (0 : Int32) < lcmpW p2.toInt64 p6.toInt64 ∧ ¬ (0 : Int32) < lcmpW p6.toInt64 p4.toInt64))), .val (.int (1 : Int32))] [(.int (1 : Int32))]))
      refine Go.retN X19 hx hlk (t := .boolean) Bd.returns (by simp) (hb hby at_70) (by decide) (by decide) e19 ?_
      exact ⟨rfl, Np20⟩
set_option maxRecDepth 65536 in
set_option maxHeartbeats 40000000 in
theorem comes_1 {Post : Tables → Env → Array Value → State → Outcome → State → Prop} (hpost : ∀ tb e args s v u, (limb_1_1.after args s (.returned v) u = true ∧ limb_1_2.after args s (.returned v) u = true ∧ True) → FrameEnd s (.returned v) u (Jvm.fieldLocs frame_1_writes args s ++ Jvm.arrayLocs frame_1_arrays args s ++ Jvm.staticLocs frame_1_statics s) 16 128 → Post tb e args s (.returned v) u) :
    ArmFor flags0 classFile x code maxLocals ret World_1 tables_1 room_1 Calls_1 rest_1 Pre_1 Post := by
  intro l hfl _ _ p e ha hc hk s m args below hf hA hF happ hP
  obtain ⟨hcalls, hrest, hpre⟩ := hP
  obtain ⟨-, -, -, hnamed, -, -, -, hat⟩ := (Spec.applies_iff hf).mp happ
  obtain ⟨hg, hn⟩ := and_e (Cond.before_iff.mp (show (Jvm.Cond.and given_1 narrow_1).before args s = true from hpre))
  obtain ⟨gg1, gg2⟩ := and_e hg
  obtain ⟨gg3, gg4⟩ := and_e gg2
  obtain ⟨gg5, gg6⟩ := and_e gg4
  obtain ⟨gg7, gg8⟩ := and_e gg6
  obtain ⟨gg9, gg10⟩ := and_e gg8
  obtain ⟨gg11, gg12⟩ := and_e gg10
  obtain ⟨w0, w1, w2, w3, w4, w5, rfl⟩ : ∃ w0 w1 w2 w3 w4 w5 : Value, args = #[w0, w1, w2, w3, w4, w5] := by
    have hs : args.size = 6 := by simpa [Cond.value, given_1] using gg1
    obtain ⟨L⟩ := args
    match L, hs with
    | [w0, w1, w2, w3, w4, w5], _ => exact ⟨w0, w1, w2, w3, w4, w5, rfl⟩
  have hw := fun d (hd : d ∈ tables_1) => atoms_spec (ws := Jvm.Cond.code x code maxLocals ret :: tables_1) hat d (List.mem_cons_of_mem _ hd)
  have hfit : Fit s := fun {y c} hc i hi => by
    obtain ⟨ha, rfl⟩ := Array.getElem?_eq_some_iff.mp hc
    have q := List.all_eq_true.mp ((Array.all_eq_true_iff_forall_mem.mp hF) _ (Array.getElem_mem ha)) i (List.mem_range.mpr hi)
    simpa [Array.getElem?_eq_getElem hi] using q
  obtain ⟨i0, ei0⟩ := is_v gg3
  obtain rfl : w0 = (.int i0) := Option.some.inj ei0
  obtain ⟨i1, ei1⟩ := is_v gg5
  obtain rfl : w1 = (.int i1) := Option.some.inj ei1
  obtain ⟨i2, ei2⟩ := is_v gg7
  obtain rfl : w2 = (.int i2) := Option.some.inj ei2
  obtain ⟨i3, ei3⟩ := is_v gg9
  obtain rfl : w3 = (.int i3) := Option.some.inj ei3
  obtain ⟨i4, ei4⟩ := is_v gg11
  obtain rfl : w4 = (.int i4) := Option.some.inj ei4
  obtain ⟨i5, ei5⟩ := is_v gg12
  obtain rfl : w5 = (.int i5) := Option.some.inj ei5
  obtain ⟨n, o, h1, h2, h3, _, L, rfl, ⟨rfl, N⟩, hq⟩ := rm0 l s _ hw tables_1 i0 i1 i2 i3 i4 i5  s.heap s.heap.size (Nat.le_refl _)  p e ha hc hk s m _ below hf ((Spec.applies_iff_loose hf).mp happ).1 ⟨rfl, State.Warmed39.refl s, rfl⟩ trivial
  refine ⟨n, _, h1, h2, h3, hpost _ _ _ _ _ _ ⟨Cond.after_iff.mpr rfl, Cond.after_iff.mpr (eq_i res_at (Term.int_eval (1)) rfl), trivial⟩ ⟨hq.1, hq.2.1, (hq.2.2.sift fun y hy => Or.inr (N y hy)).mono (by decide) (by decide)⟩⟩
theorem main_1_1 : Claimed_1_1 := comes_1 fun _ _ _ _ _ _ h hF => ⟨h.1, hF⟩
theorem main_1_2 : Claimed_1_2 := comes_1 fun _ _ _ _ _ _ h hF => ⟨h.2.1, hF⟩
end Jvm.Pilot.@@N@@
namespace Jvm.Pilot.@@N@@
open Jvm Jvm.ClassFile Sem Op Lib Jvm.Free Jvm.Stand Jvm.Pilot.@@N@@.Jvm.D
/-! MADE BY PROGRAM (witnessworld.py) out of the Statement's table words and the real class files: 10 classes; the members and pool entries that the words name. The judged class is class 1, her method 2. -/
namespace start1
open Jvm.ClassFile
def u (s : String) : CpInfo := .utf8 (stringToUtf16 s)
/-- a pool by its gaps: so many unusable entries, then the entry; so many at the end -/
def gap : Nat → List CpInfo → List CpInfo
  | 0, r => r
  | n + 1, r => .unusable :: gap n r
def poolList (es : List (Nat × CpInfo)) (last : Nat) : List CpInfo := es.foldr (fun e r => gap e.1 (e.2 :: r)) (gap last [])
def pool (es : List (Nat × CpInfo)) (last : Nat) : Array CpInfo := ⟨poolList es last⟩
def fileOf (pool : Array CpInfo) (this : Nat) (attrs : Array Attribute := #[]) (ms : Array MethodInfo := #[]) (fl : Nat := 33) (sup : Nat := 0) (ifs : Array Nat := #[]) (fds : Array FieldInfo := #[]) : ClassFile where
  minorVersion := 0
  majorVersion := 65
  constantPool := pool
  accessFlags := fl
  thisClass := this
  superClass := sup
  interfaces := ifs
  fields := fds
  methods := ms
  attributes := attrs
def plain (name : String) (sup : Option ClassId) : Class where
  name := name
  kind := .ordinary
  loader := none
  accessFlags := 33
  super := sup
  interfaces := #[]
  cf := none
  fields := #[]
  methods := #[]
  instanceTypes := #[]
  staticTypes := #[]
  resolved := #[]
  callSites := []
  init := .initialized
  statics := none
  mirror := none

def pool0 : Array CpInfo := pool [(5, u "<init>"), (0, u "()V"), (1, .class_ 10), (1, u "java/lang/Object")] 113

def k0c0 : Code := { maxStack := 0, maxLocals := 1, code := object_method_1_code, exceptionTable := #[], attributes := #[] }
def k0m0 : Method := { name := "<init>", desc := "()V", sig := { parameters := [], returnType := none }, accessFlags := 1, code := some k0c0 }
/-- java/lang/Object -/
def k0 : Class := { plain "java/lang/Object" none with
  accessFlags := 33
  interfaces := #[]
  cf := some (fileOf pool0 8 #[] #[{ accessFlags := 1, nameIndex := 5, descriptorIndex := 6, attributes := #[] }] 33 0 #[] #[])
  fields := #[]
  methods := #[k0m0]
  instanceTypes := #[]
  staticTypes := #[]
  resolved := Array.replicate 124 none
  statics := none }

def pool1 : Array CpInfo := pool [(2, .class_ 4), (1, u "java/lang/Object"), (0, u "<init>"), (0, u "()V"), (0, .class_ 8), (0, u "com/example/gridshift/gridshift/Query"), (0, .methodref 7 10), (0, .nameAndType 5 11), (0, u "(JDDDD)V"), (0, .methodref 7 13), (0, .nameAndType 14 15), (0, u "contains"), (0, u "(DD)Z"), (0, .methodref 17 18), (0, .class_ 19), (0, .nameAndType 20 21), (0, u "com/example/gridshift/gridshift/QueryContainsPinLaw"), (0, u "within"), (0, u "(III)Z"), (3, u "law"), (0, u "(IIIIII)Z")] 2

def k1m0 : Method := { name := "<init>", desc := "()V", sig := { parameters := [], returnType := none }, accessFlags := 2, code := none }
def k1c1 : Code := { maxStack := 4, maxLocals := 7, code := method_2_code, exceptionTable := #[], attributes := #[] }
def k1m1 : Method := { name := "within", desc := "(III)Z", sig := { parameters := [.int, .int, .int], returnType := some .boolean }, accessFlags := 10, code := some k1c1 }
def k1c2 : Code := { maxStack := 12, maxLocals := 9, code := code, exceptionTable := #[], attributes := #[] }
def k1m2 : Method := { name := "law", desc := "(IIIIII)Z", sig := { parameters := [.int, .int, .int, .int, .int, .int], returnType := some .boolean }, accessFlags := 9, code := some k1c2 }
/-- com/example/gridshift/gridshift/QueryContainsPinLaw -/
def k1 : Class := { plain "com/example/gridshift/gridshift/QueryContainsPinLaw" (some 0) with
  accessFlags := 49
  interfaces := #[]
  cf := some (fileOf pool1 17 #[] #[{ accessFlags := 2, nameIndex := 5, descriptorIndex := 6, attributes := #[] }, { accessFlags := 10, nameIndex := 20, descriptorIndex := 21, attributes := #[] }, { accessFlags := 9, nameIndex := 25, descriptorIndex := 26, attributes := #[] }] 49 2 #[] #[])
  fields := #[]
  methods := #[k1m0, k1m1, k1m2]
  instanceTypes := #[]
  staticTypes := #[]
  resolved := Array.replicate 29 none
  statics := none }

def pool2 : Array CpInfo := pool [(1, .methodref 2 3), (0, .class_ 4), (0, .nameAndType 5 6), (0, u "java/lang/Object"), (0, u "<init>"), (0, u "()V"), (0, .class_ 8), (0, u "java/lang/Record")] 13

def k2c0 : Code := { maxStack := 1, maxLocals := 1, code := jdk_30_method_1_code, exceptionTable := #[], attributes := #[] }
def k2m0 : Method := { name := "<init>", desc := "()V", sig := { parameters := [], returnType := none }, accessFlags := 4, code := some k2c0 }
/-- java/lang/Record -/
def k2 : Class := { plain "java/lang/Record" (some 0) with
  accessFlags := 1057
  interfaces := #[]
  cf := some (fileOf pool2 7 #[] #[{ accessFlags := 4, nameIndex := 5, descriptorIndex := 6, attributes := #[] }] 1057 2 #[] #[])
  fields := #[]
  methods := #[k2m0]
  instanceTypes := #[]
  staticTypes := #[]
  resolved := Array.replicate 22 none
  statics := none }

def pool3 : Array CpInfo := pool [(1, .methodref 2 3), (0, .class_ 4), (0, .nameAndType 5 6), (0, u "java/lang/Record"), (0, u "<init>"), (0, u "()V"), (0, .fieldref 8 9), (0, .class_ 10), (0, .nameAndType 11 12), (0, u "com/example/gridshift/gridshift/Query"), (0, u "id"), (0, u "J"), (0, .fieldref 8 14), (0, .nameAndType 15 16), (0, u "minLon"), (0, u "D"), (0, .fieldref 8 18), (0, .nameAndType 19 16), (0, u "minLat"), (0, .fieldref 8 21), (0, .nameAndType 22 16), (0, u "maxLon"), (0, .fieldref 8 24), (0, .nameAndType 25 16), (0, u "maxLat"), (12, u "(JDDDD)V"), (3, u "contains"), (0, u "(DD)Z")] 30

def k3c0 : Code := { maxStack := 3, maxLocals := 11, code := prog_63_method_1_code, exceptionTable := #[], attributes := #[] }
def k3m0 : Method := { name := "<init>", desc := "(JDDDD)V", sig := { parameters := [.long, .double, .double, .double, .double], returnType := none }, accessFlags := 0, code := some k3c0 }
def k3c1 : Code := { maxStack := 4, maxLocals := 5, code := prog_63_method_2_code, exceptionTable := #[], attributes := #[] }
def k3m1 : Method := { name := "contains", desc := "(DD)Z", sig := { parameters := [.double, .double], returnType := some .boolean }, accessFlags := 0, code := some k3c1 }
/-- com/example/gridshift/gridshift/Query -/
def k3 : Class := { plain "com/example/gridshift/gridshift/Query" (some 2) with
  accessFlags := 48
  interfaces := #[]
  cf := some (fileOf pool3 8 #[] #[{ accessFlags := 0, nameIndex := 5, descriptorIndex := 38, attributes := #[] }, { accessFlags := 0, nameIndex := 42, descriptorIndex := 43, attributes := #[] }] 48 2 #[] #[{ accessFlags := 18, nameIndex := 11, descriptorIndex := 12, attributes := #[] }, { accessFlags := 18, nameIndex := 15, descriptorIndex := 16, attributes := #[] }, { accessFlags := 18, nameIndex := 19, descriptorIndex := 16, attributes := #[] }, { accessFlags := 18, nameIndex := 22, descriptorIndex := 16, attributes := #[] }, { accessFlags := 18, nameIndex := 25, descriptorIndex := 16, attributes := #[] }])
  fields := #[{ name := "id", type := .long, accessFlags := 18, slot := 0, constantValue := 0 }, { name := "minLon", type := .double, accessFlags := 18, slot := 1, constantValue := 0 }, { name := "minLat", type := .double, accessFlags := 18, slot := 2, constantValue := 0 }, { name := "maxLon", type := .double, accessFlags := 18, slot := 3, constantValue := 0 }, { name := "maxLat", type := .double, accessFlags := 18, slot := 4, constantValue := 0 }]
  methods := #[k3m0, k3m1]
  instanceTypes := #[.long, .double, .double, .double, .double]
  staticTypes := #[]
  resolved := Array.replicate 74 none
  statics := none }

def pool4 : Array CpInfo := pool [(1, u "java/lang/Cloneable"), (0, .class_ 1), (0, u "java/lang/Object"), (0, .class_ 3)] 3

/-- java/lang/Cloneable -/
def k4 : Class := { plain "java/lang/Cloneable" (some 0) with
  accessFlags := 1537
  interfaces := #[]
  cf := some (fileOf pool4 2 #[] #[] 1537 4 #[] #[])
  fields := #[]
  methods := #[]
  instanceTypes := #[]
  staticTypes := #[]
  resolved := Array.replicate 8 none
  statics := none }

def pool5 : Array CpInfo := pool [(1, u "java/io/Serializable"), (0, .class_ 1), (0, u "java/lang/Object"), (0, .class_ 3)] 3

/-- java/io/Serializable -/
def k5 : Class := { plain "java/io/Serializable" (some 0) with
  accessFlags := 1537
  interfaces := #[]
  cf := some (fileOf pool5 2 #[] #[] 1537 4 #[] #[])
  fields := #[]
  methods := #[]
  instanceTypes := #[]
  staticTypes := #[]
  resolved := Array.replicate 8 none
  statics := none }

/-- the primitive byte -/
def k6 : Class := { plain "byte" none with kind := .primitive 'B', accessFlags := 0x411 }
/-- [B -/
def k7 : Class := { plain "[B" (some 0) with kind := .array 6 .byte, interfaces := #[4, 5], accessFlags := 1041 }

/-- the primitive int -/
def k8 : Class := { plain "int" none with kind := .primitive 'I', accessFlags := 0x411 }
/-- [I -/
def k9 : Class := { plain "[I" (some 0) with kind := .array 8 .int, interfaces := #[4, 5], accessFlags := 1041 }

def heap : Heap := #[]
def classes : Array Class := #[k0, k1, k2, k3, k4, k5, k6, k7, k8, k9]
def interned : List (Array UInt16 × Addr) := []
def slotsUsed : Nat := 0
def theMethod : MethodId := ⟨1, 2⟩
def args0 : Array Value := #[.int 5, .int 1, .int 2, .int 7, .int 3, .int 4]
def aboutOver (below : List Frame) : State where
  vm := { classes := classes, interned := interned.toArray }
  heap := heap
  slotsUsed := slotsUsed
  threads := #[{ frames := .invoking theMethod args0 :: below }]
def below0 : List Frame := [.native { method := ⟨0, 0⟩, args := #[] }]
def about1 : State := aboutOver below0
def p0 : Program := .bare "" "" ""
def e0 : Env := launch0.env 0 0 0
theorem w_frames : about1.frames = Frame.invoking theMethod args0 :: below0 := rfl
set_option maxRecDepth 65536 in
theorem w_args : argsFit about1.vm theMethod args0 = true := by decide +kernel
set_option maxRecDepth 65536 in
theorem w_heap : heapFits about1 = true := by decide +kernel
set_option maxRecDepth 65536 in
theorem w_runnable : about1.curStatus? = some .runnable := by decide +kernel
set_option maxRecDepth 65536 in
theorem w_alone : about1.alone = true := by decide +kernel
set_option maxRecDepth 65536 in
theorem w_named : about1.methodNamed? x = some theMethod := by decide +kernel
set_option maxRecDepth 65536 in
theorem w_hears : about1.hears theMethod below0 = true := by decide +kernel
set_option maxRecDepth 65536 in
theorem w_ripe : about1.ripe theMethod args0 below0 = true := by decide +kernel
theorem w_running : about1.status = .running := rfl
set_option maxRecDepth 65536 in
theorem w_room : about1.hasRoom e0.platform room_1 = true :=
  launch0.hasRoom_least _ room_1 (by decide +kernel) (by decide +kernel) (by decide +kernel) (by decide +kernel) (by decide +kernel) (by decide +kernel)
theorem allAtoms_all (ts : List Jvm.Cond) (a : Array Jvm.Value) (st : Jvm.State) : (allAtoms ts).before a st = ts.all (fun c => c.before a st) := by
  induction ts with
  | nil => rfl
  | cons c t ih =>
    show (Jvm.Cond.and c (allAtoms t)).before a st = _
    rw [Jvm.Cond.before_and, ih, List.all_cons]
def words1 : List Jvm.Cond := Jvm.Cond.code x code maxLocals ret :: tables_1
/-- a 'code' word, met by the world's own term for the bytes: nothing is compared byte by byte -/
theorem code_word {y : MethodName} {bytes : ByteArray} {mx : Nat} {rt : Option FieldType} {a : Array Value} {s : State} {m : MethodId} {meth : Method} {c : Code} (h1 : s.methodNamed? y = some m) (h2 : s.vm.method? m = some meth) (h3 : meth.code = some c) (h4 : c.code = bytes)
    (h5 : (c.maxLocals == mx && c.exceptionTable.isEmpty && decide (c.maxStack ≤ mostOperands) && decide (meth.sig.returnType = rt) && !meth.locks && decide (parseMethodDescriptor y.desc = some meth.sig)) = true) : (Jvm.Cond.code y bytes mx rt).before a s = true := by
  simp only [Bool.and_eq_true, beq_iff_eq, Bool.not_eq_true', decide_eq_true_eq] at h5
  obtain ⟨⟨⟨⟨⟨g1, g2⟩, g3⟩, g4⟩, g5⟩, g6⟩ := h5
  simp [Cond.before, Cond.holds, Cond.value, h1, h2, h3, h4, g1, g2, g3, g4, g5, g6]
def isCode : Jvm.Cond → Bool
  | .code _ _ _ _ => true
  | _ => false
theorem all_split {L : List Jvm.Cond} {P : Jvm.Cond → Bool} (h1 : L.all (fun c => isCode c || P c) = true) (h2 : ∀ c ∈ L.filter isCode, P c = true) : L.all P = true := by
  refine List.all_eq_true.mpr fun c hc => ?_
  have h := List.all_eq_true.mp h1 c hc
  rcases Bool.eq_false_or_eq_true (isCode c) with hi | hi
  · exact h2 c (List.mem_filter.mpr ⟨hc, hi⟩)
  · simpa [hi] using h
set_option maxRecDepth 65536 in
theorem w_c0 : (Jvm.Cond.code x code maxLocals ret).before args0 about1 = true := code_word (m := ⟨1, 2⟩) (meth := k1m2) (c := k1c2) (by decide +kernel) rfl rfl rfl (by decide +kernel)
set_option maxRecDepth 65536 in
theorem w_c1 : (Jvm.Cond.code ({ cls := "com/example/gridshift/gridshift/Query", name := "<init>", desc := "(JDDDD)V" } : Jvm.MethodName) prog_63_method_1_code (11 : Nat) (Option.none : Option Jvm.ClassFile.FieldType)).before args0 about1 = true := code_word (m := ⟨3, 0⟩) (meth := k3m0) (c := k3c0) (by decide +kernel) rfl rfl rfl (by decide +kernel)
set_option maxRecDepth 65536 in
theorem w_c2 : (Jvm.Cond.code ({ cls := "java/lang/Record", name := "<init>", desc := "()V" } : Jvm.MethodName) jdk_30_method_1_code (1 : Nat) (Option.none : Option Jvm.ClassFile.FieldType)).before args0 about1 = true := code_word (m := ⟨2, 0⟩) (meth := k2m0) (c := k2c0) (by decide +kernel) rfl rfl rfl (by decide +kernel)
set_option maxRecDepth 65536 in
theorem w_c3 : (Jvm.Cond.code ({ cls := "java/lang/Object", name := "<init>", desc := "()V" } : Jvm.MethodName) object_method_1_code (1 : Nat) (Option.none : Option Jvm.ClassFile.FieldType)).before args0 about1 = true := code_word (m := ⟨0, 0⟩) (meth := k0m0) (c := k0c0) (by decide +kernel) rfl rfl rfl (by decide +kernel)
set_option maxRecDepth 65536 in
theorem w_c4 : (Jvm.Cond.code ({ cls := "com/example/gridshift/gridshift/Query", name := "contains", desc := "(DD)Z" } : Jvm.MethodName) prog_63_method_2_code (5 : Nat) (Option.some Jvm.ClassFile.FieldType.boolean)).before args0 about1 = true := code_word (m := ⟨3, 1⟩) (meth := k3m1) (c := k3c1) (by decide +kernel) rfl rfl rfl (by decide +kernel)
set_option maxRecDepth 65536 in
theorem w_c5 : (Jvm.Cond.code ({ cls := "com/example/gridshift/gridshift/QueryContainsPinLaw", name := "within", desc := "(III)Z" } : Jvm.MethodName) method_2_code (7 : Nat) (Option.some Jvm.ClassFile.FieldType.boolean)).before args0 about1 = true := code_word (m := ⟨1, 1⟩) (meth := k1m1) (c := k1c1) (by decide +kernel) rfl rfl rfl (by decide +kernel)
def codes1 : List Jvm.Cond := [Jvm.Cond.code x code maxLocals ret, Jvm.Cond.code ({ cls := "com/example/gridshift/gridshift/Query", name := "<init>", desc := "(JDDDD)V" } : Jvm.MethodName) prog_63_method_1_code (11 : Nat) (Option.none : Option Jvm.ClassFile.FieldType), Jvm.Cond.code ({ cls := "java/lang/Record", name := "<init>", desc := "()V" } : Jvm.MethodName) jdk_30_method_1_code (1 : Nat) (Option.none : Option Jvm.ClassFile.FieldType), Jvm.Cond.code ({ cls := "java/lang/Object", name := "<init>", desc := "()V" } : Jvm.MethodName) object_method_1_code (1 : Nat) (Option.none : Option Jvm.ClassFile.FieldType), Jvm.Cond.code ({ cls := "com/example/gridshift/gridshift/Query", name := "contains", desc := "(DD)Z" } : Jvm.MethodName) prog_63_method_2_code (5 : Nat) (Option.some Jvm.ClassFile.FieldType.boolean), Jvm.Cond.code ({ cls := "com/example/gridshift/gridshift/QueryContainsPinLaw", name := "within", desc := "(III)Z" } : Jvm.MethodName) method_2_code (7 : Nat) (Option.some Jvm.ClassFile.FieldType.boolean)]
set_option maxRecDepth 65536 in
theorem codes_eq : words1.filter isCode = codes1 := rfl
theorem w_codes : ∀ c ∈ words1.filter isCode, c.before args0 about1 = true := by
  rw [codes_eq]
  intro c hc
  simp only [codes1, List.mem_cons, List.not_mem_nil, or_false] at hc
  rcases hc with rfl | rfl | rfl | rfl | rfl | rfl
  · exact w_c0
  · exact w_c1
  · exact w_c2
  · exact w_c3
  · exact w_c4
  · exact w_c5
set_option maxRecDepth 65536 in
theorem w_t1 : (words1.take 24).all (fun c => isCode c || c.before args0 about1) = true := by decide +kernel
set_option maxRecDepth 65536 in
theorem w_t2 : (words1.drop 24).all (fun c => isCode c || c.before args0 about1) = true := by decide +kernel
theorem w_tables : (allAtoms (Jvm.Cond.code x code maxLocals ret :: tables_1)).before args0 about1 = true := by
  rw [allAtoms_all]
  show words1.all (fun c => c.before args0 about1) = true
  refine all_split ?_ w_codes
  rw [← List.take_append_drop 24 words1, List.all_append, w_t1, w_t2]
  rfl
set_option maxRecDepth 65536 in
theorem w_case : (Jvm.Cond.and given_1 narrow_1).before args0 about1 = true := by decide +kernel
theorem w_applies : (headSpec (Jvm.Cond.code x code maxLocals ret :: tables_1) room_1).applies x e0.platform about1 = true :=
  (Spec.applies_iff w_frames).mpr ⟨w_running, w_runnable, w_alone, w_named, w_hears, w_ripe, w_room, w_tables⟩
theorem atStart : AtStart classFile x code maxLocals ret World_1 tables_1 room_1 Calls_1 rest_1 Pre_1 launch0 p0 e0 about1 theMethod args0 below0 :=
  ⟨lists_1, trivial, launch0.admits_env _ _ _, launch0.least_env, fairChoices_fair.cas, fairChoices_fair.clock, w_frames, w_args, w_heap, w_applies, trivial, trivial, w_case⟩
end start1
theorem witness_1 : WitnessClaimed_1 := ⟨start1.p0, start1.e0, start1.about1, start1.theMethod, start1.args0, start1.below0, start1.atStart⟩
end Jvm.Pilot.@@N@@
