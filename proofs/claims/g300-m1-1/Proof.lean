import JvmDerived
import JvmDerived.Pilot.@@N@@Statement
import JvmDerived.Pilot.@@N@@Code
set_option linter.unusedVariables false
set_option linter.unusedSimpArgs false
namespace Jvm.RoadKit
open Sem ClassFile Op Lib Jvm.Stand Jvm.Free Jvm.LawKit
section New
variable {p : Program} {l : Launch} {e : Env} {R : Room} {s : State} {m : MethodId} {args : Array Value} {below : List Frame} {meth : Method} {c : Code} {T : State} {locs : List Loc} {cells slots : Nat}
theorem retI (X : Stand p l e R s m args below meth c T locs cells slots) (hx : p.tables.exec = Jvm.exec) {pc : Nat} {Ls : Array Slot} {z : Int32} {rest : List Value} (hret : meth.sig.returnType = some .int) (hd : decode c.code pc = .ok (.ireturn, 1)) {fs : List Frame}
    (hl : ∀ (f : JFrame) (acts : List Action), f.method = m → f.locked = none → f.entered = [] → (doReturn e (T.setTop f) acts (some (.int z))).1 = T.setFrames fs) : Steps p.tables e below (T.setTop (mkF m pc Ls (.int z :: rest))) (T.setFrames fs) := by
  have hm' : T.vm.method? m = some meth := X.method'
  have hn : narrow .int (.int z) = .int z := rfl
  show Steps p.tables e below (T.setTop { method := m, pc := pc, locals := Ls, stack := _ :: rest, locked := none }) _
  jvm_step X.here [X.here.top, hx, hd, hm', hret, hn]
  first | (intro acts; rw [hl _ acts rfl rfl rfl]) | rw [hl _ _ rfl rfl rfl]
  exact Steps.refl _
/-- from the state A the body comes to its end, and what it leaves is Q's -/
def Go (tb : Tables) (e : Env) (below : List Frame) (s : State) (Q : Option Value → Heap → List Loc → Prop) (k n : Nat) (A : State) : Prop :=
  ∃ s₂ o, Steps tb e below A s₂ ∧ s₂.status = .running ∧ Ended s₂ below o ∧ ∃ v L, o = .returned v ∧ Q v s₂.heap L ∧ FrameEnd s o s₂ L k n
theorem Go.on {tb : Tables} {Q : Option Value → Heap → List Loc → Prop} {k n : Nat} {A B : State} (h : ∀ t, Steps tb e below B t → Steps tb e below A t) (g : Go tb e below s Q k n B) : Go tb e below s Q k n A := by
  obtain ⟨s₂, o, h1, h2⟩ := g
  exact ⟨s₂, o, h _ h1, h2⟩
theorem Go.via {tb : Tables} {Q : Option Value → Heap → List Loc → Prop} {k n : Nat} {A B : State} (h : Steps tb e below A B) (g : Go tb e below s Q k n B) : Go tb e below s Q k n A := by
  obtain ⟨s₂, o, h1, h2⟩ := g
  exact ⟨s₂, o, h.trans h1, h2⟩
theorem Go.retN (X : Stand p l e R s m args below meth c T locs cells slots) (hx : p.tables.exec = Jvm.exec) (hlk : meth.locks = false) {Q : Option Value → Heap → List Loc → Prop} {k n : Nat} {pc : Nat} {Ls : Array Slot} {z : Int32} {t : FieldType} {rest : List Value} (hret : meth.sig.returnType = some t) (ht : t = .boolean ∨ t = .byte ∨ t = .char ∨ t = .short)
    (hd : decode c.code pc = .ok (.ireturn, 1)) (hk : cells ≤ k) (hn : slots ≤ n) {h : Heap} (eT : T.heap = h) (q : Q (some (.int (nar t z))) h locs) : Go p.tables e below s Q k n (T.setTop (mkF m pc Ls (.int z :: rest))) := by
  obtain ⟨fs, hr, hrun, hended, hW, hsame⟩ := X.leave (v := some (.int (nar t z))) (fun h => by rw [hret] at h; cases h) hlk
  subst eT
  exact ⟨_, _, Jvm.RoadKit.retN X hx hret ht hd hr, hrun, hended, _, _, rfl, q, ⟨_, rfl⟩, hW, hsame.mono hk hn⟩
theorem Go.retI (X : Stand p l e R s m args below meth c T locs cells slots) (hx : p.tables.exec = Jvm.exec) (hlk : meth.locks = false) {Q : Option Value → Heap → List Loc → Prop} {k n : Nat} {pc : Nat} {Ls : Array Slot} {z : Int32} {rest : List Value} (hret : meth.sig.returnType = some .int)
    (hd : decode c.code pc = .ok (.ireturn, 1)) (hk : cells ≤ k) (hn : slots ≤ n) {h : Heap} (eT : T.heap = h) (q : Q (some (.int z)) h locs) : Go p.tables e below s Q k n (T.setTop (mkF m pc Ls (.int z :: rest))) := by
  obtain ⟨fs, hr, hrun, hended, hW, hsame⟩ := X.leave (v := some (.int z)) (fun h => by rw [hret] at h; cases h) hlk
  subst eT
  exact ⟨_, _, Jvm.RoadKit.retI X hx hret hd hr, hrun, hended, _, _, rfl, q, ⟨_, rfl⟩, hW, hsame.mono hk hn⟩
theorem Go.retJ (X : Stand p l e R s m args below meth c T locs cells slots) (hx : p.tables.exec = Jvm.exec) (hlk : meth.locks = false) {Q : Option Value → Heap → List Loc → Prop} {k n : Nat} {pc : Nat} {Ls : Array Slot} {z : Int64} (hret : meth.sig.returnType = some .long)
    (hd : decode c.code pc = .ok (.lreturn, 1)) (hk : cells ≤ k) (hn : slots ≤ n) {h : Heap} (eT : T.heap = h) (q : Q (some (.long z)) h locs) : Go p.tables e below s Q k n (T.setTop (mkF m pc Ls [.long z])) := by
  obtain ⟨fs, hr, hrun, hended, hW, hsame⟩ := X.leave (v := some (.long z)) (fun h => by rw [hret] at h; cases h) hlk
  subst eT
  exact ⟨_, _, X.lreturnOut hx hret hd hr, hrun, hended, _, _, rfl, q, ⟨_, rfl⟩, hW, hsame.mono hk hn⟩
theorem Go.retA (X : Stand p l e R s m args below meth c T locs cells slots) (hx : p.tables.exec = Jvm.exec) (hlk : meth.locks = false) {Q : Option Value → Heap → List Loc → Prop} {k n : Nat} {pc : Nat} {Ls : Array Slot} {w : Value} {t : FieldType} (hw : w.isRef = true) (hret : meth.sig.returnType = some t) (ht : t.isReference = true)
    (hd : decode c.code pc = .ok (.areturn, 1)) (hk : cells ≤ k) (hn : slots ≤ n) {h : Heap} (eT : T.heap = h) (q : Q (some w) h locs) : Go p.tables e below s Q k n (T.setTop (mkF m pc Ls [w])) := by
  obtain ⟨fs, hr, hrun, hended, hW, hsame⟩ := X.leave (v := some w) (fun h => by rw [hret] at h; cases h) hlk
  subst eT
  exact ⟨_, _, X.areturnOut hx hw hret ht hd hr, hrun, hended, _, _, rfl, q, ⟨_, rfl⟩, hW, hsame.mono hk hn⟩
theorem Go.retV (X : Stand p l e R s m args below meth c T locs cells slots) (hx : p.tables.exec = Jvm.exec) (hlk : meth.locks = false) {Q : Option Value → Heap → List Loc → Prop} {k n : Nat} {pc : Nat} {Ls : Array Slot} (hret : meth.sig.returnType = none)
    (hd : decode c.code pc = .ok (.return_, 1)) (hk : cells ≤ k) (hn : slots ≤ n) {h : Heap} (eT : T.heap = h) (q : Q none h locs) : Go p.tables e below s Q k n (T.setTop (mkF m pc Ls [])) := by
  obtain ⟨fs, hr, hrun, hended, hW, hsame⟩ := X.leave (v := none) (fun _ => rfl) hlk
  subst eT
  exact ⟨_, _, X.returnOut hx hret hd hr, hrun, hended, _, _, rfl, q, ⟨_, rfl⟩, hW, hsame.mono hk hn⟩
end New
end Jvm.RoadKit
namespace Jvm.Pilot.@@N@@
open Jvm Jvm.ClassFile Sem Op Lib Jvm.Free Jvm.Stand Jvm.LawKit Jvm.RoadKit Bundle Jvm.Pilot.@@N@@.Jvm.D

theorem own_modr5 (p : Int32) : 0 ≤ ((p &&& (2147483647 : Int32)) % (5 : Int32)).toInt ∧ ((p &&& (2147483647 : Int32)) % (5 : Int32)).toInt < 5 := by
  have h1 := (c_and p (2147483647 : Int32) (by decide)).1
  have h2 := (c_irem (p &&& (2147483647 : Int32)) (5 : Int32) 5 (by decide)).1 h1
  rw [h2]; omega
theorem own_mod5 (p : Int32) : (p &&& (2147483647 : Int32)) % (5 : Int32) = (0 : Int32) ∨ (p &&& (2147483647 : Int32)) % (5 : Int32) = (1 : Int32) ∨ (p &&& (2147483647 : Int32)) % (5 : Int32) = (2 : Int32) ∨ (p &&& (2147483647 : Int32)) % (5 : Int32) = (3 : Int32) ∨ (p &&& (2147483647 : Int32)) % (5 : Int32) = (4 : Int32) := by
  have h := own_modr5 p
  have h3 : ((p &&& (2147483647 : Int32)) % (5 : Int32)).toInt = 0 ∨ ((p &&& (2147483647 : Int32)) % (5 : Int32)).toInt = 1 ∨ ((p &&& (2147483647 : Int32)) % (5 : Int32)).toInt = 2 ∨ ((p &&& (2147483647 : Int32)) % (5 : Int32)).toInt = 3 ∨ ((p &&& (2147483647 : Int32)) % (5 : Int32)).toInt = 4 := by omega
  rcases h3 with h3 | h3 | h3 | h3 | h3
  · exact Or.inl (Int32.toInt_inj.mp h3)
  · exact Or.inr (Or.inl (Int32.toInt_inj.mp h3))
  · exact Or.inr (Or.inr (Or.inl (Int32.toInt_inj.mp h3)))
  · exact Or.inr (Or.inr (Or.inr (Or.inl (Int32.toInt_inj.mp h3))))
  · exact Or.inr (Or.inr (Or.inr (Or.inr (Int32.toInt_inj.mp h3))))

theorem own_nb (x : Int32) : nar .byte (x.toInt8.toInt32) = x.toInt8.toInt32 := by
  show x.toInt8.toInt32.toInt8.toInt32 = x.toInt8.toInt32
  rw [Int8.toInt8_toInt32]

theorem d2_0 : decode method_3_code 0 = .ok (.iload_n 2, 1) := by decide +kernel
theorem d2_1 : decode method_3_code 1 = .ok (.aload_n 1, 1) := by decide +kernel
theorem d2_2 : decode method_3_code 2 = .ok (.arraylength, 1) := by decide +kernel
theorem d2_3 : decode method_3_code 3 = .ok (.if_icmp .lt 5, 3) := by decide +kernel
theorem d2_6 : decode method_3_code 6 = .ok (.iconst 1, 1) := by decide +kernel
theorem d2_7 : decode method_3_code 7 = .ok (.ireturn, 1) := by decide +kernel
theorem d2_8 : decode method_3_code 8 = .ok (.aload_n 0, 1) := by decide +kernel
theorem d2_9 : decode method_3_code 9 = .ok (.iload_n 2, 1) := by decide +kernel
theorem d2_10 : decode method_3_code 10 = .ok (.iconst 1, 1) := by decide +kernel
theorem d2_11 : decode method_3_code 11 = .ok (.iadd, 1) := by decide +kernel
theorem d2_12 : decode method_3_code 12 = .ok (.baload, 1) := by decide +kernel
theorem d2_13 : decode method_3_code 13 = .ok (.iload_n 3, 1) := by decide +kernel
theorem d2_14 : decode method_3_code 14 = .ok (.i2b, 1) := by decide +kernel
theorem d2_15 : decode method_3_code 15 = .ok (.if_icmp .ne 15, 3) := by decide +kernel
theorem d2_18 : decode method_3_code 18 = .ok (.aload_n 1, 1) := by decide +kernel
theorem d2_19 : decode method_3_code 19 = .ok (.iload_n 2, 1) := by decide +kernel
theorem d2_20 : decode method_3_code 20 = .ok (.baload, 1) := by decide +kernel
theorem d2_21 : decode method_3_code 21 = .ok (.iload_n 3, 1) := by decide +kernel
theorem d2_22 : decode method_3_code 22 = .ok (.i2b, 1) := by decide +kernel
theorem d2_23 : decode method_3_code 23 = .ok (.if_icmp .ne 7, 3) := by decide +kernel
theorem d2_26 : decode method_3_code 26 = .ok (.iconst 1, 1) := by decide +kernel
theorem d2_27 : decode method_3_code 27 = .ok (.goto 4, 3) := by decide +kernel
theorem d2_30 : decode method_3_code 30 = .ok (.iconst 0, 1) := by decide +kernel
theorem d2_31 : decode method_3_code 31 = .ok (.ireturn, 1) := by decide +kernel
theorem pd__40__91_B_41__91_B : parseMethodDescriptor "([B)[B" = some ⟨[(.array .byte)], some (.array .byte)⟩ := by decide +kernel
theorem pd__40_Ljava_47_lang_47_Object_59_ILjava_47_lang_47_Object_59_II_41_V : parseMethodDescriptor "(Ljava/lang/Object;ILjava/lang/Object;II)V" = some ⟨[(.object "java/lang/Object"), .int, (.object "java/lang/Object"), .int, .int], none⟩ := by decide +kernel
theorem pd__40__91_B_91_BII_41_Z : parseMethodDescriptor "([B[BII)Z" = some ⟨[(.array .byte), (.array .byte), .int, .int], some .boolean⟩ := by decide +kernel
theorem ef_2o (m : MethodId) (x0 : Addr) (x1 : Addr) (x2 : Int32) (x3 : Int32) : entryFrame m #[(.ref x0), (.ref x1), (.int x2), (.int x3)] 4 = mkF m 0 #[.val (.ref x0), .val (.ref x1), .val (.int x2), .val (.int x3)] [] := by first | (simp [entryFrame, mkF, argsToLocals, Value.category]; done) | rfl
def Q2o (Z : State) (a1 : Addr) (a2 : Addr) (p3 : Int32) (p4 : Int32) (k1 : ClassId) (k2 : ClassId) (z1 : Int32) (z2 : Int32) (vs1 : List Value) (vs2 : List Value) (h0 : Heap) (n0 : Nat) (v : Option Value) (h : Heap) (L : List Loc) : Prop := v = some (.int (1 : Int32)) ∧ Fr n0 L ∧ h = h0
theorem pn_com_example_rhythmwire_rhythmwire_hl7_MllpFramePinLaw : plainName "com/example/rhythmwire/rhythmwire/hl7/MllpFramePinLaw" = true := by first | (simp [plainName, overriddenIn]; done) | decide +kernel
set_option maxRecDepth 65536 in
set_option maxHeartbeats 40000000 in
theorem rm2o (l : Launch) (Z : State) (a0 : Array Value) (hw : ∀ d ∈ tables_1, d.before a0 Z = true) (ws : List Jvm.Cond) (a1 : Addr) (a2 : Addr) (p3 : Int32) (p4 : Int32) (k1 : ClassId) (k2 : ClassId) (z1 : Int32) (z2 : Int32) (vs1 : List Value) (vs2 : List Value) (h0 : Heap) (n0 : Nat) (Z0 : n0 ≤ h0.size) (V_a1 : Arv Z h0 a1 k1 .byte z1 vs1 (.int (0 : Int32))) (V_a2 : Arv Z h0 a2 k2 .byte z2 vs2 (.int (0 : Int32))) (hout : ¬ p3 < z2) :
    MetFree l (⟨"com/example/rhythmwire/rhythmwire/hl7/MllpFramePinLaw", "slot", "([B[BII)Z"⟩ : MethodName) (head1 (Jvm.Cond.code (⟨"com/example/rhythmwire/rhythmwire/hl7/MllpFramePinLaw", "slot", "([B[BII)Z"⟩ : MethodName) method_3_code 4 (some .boolean) :: ws) ({ frames := 0, cells := 0, slots := 0, locals := 0 } : Room)) (fun a U => a = #[(.ref a1), (.ref a2), (.int p3), (.int p4)] ∧ Z.Warmed39 U.vm ∧ U.heap = h0) (fun _ _ _ _ _ => True) (fun _ U o U' => ∃ v L, o = .returned v ∧ Q2o Z a1 a2 p3 p4 k1 k2 z1 z2 vs1 vs2 h0 n0 v U'.heap L ∧ FrameEnd U o U' L ({ frames := 0, cells := 0, slots := 0, locals := 0 } : Room).cells ({ frames := 0, cells := 0, slots := 0, locals := 0 } : Room).slots) := by
  refine MetFree.of_bodySF (plainFor_of_name pn_com_example_rhythmwire_rhythmwire_hl7_MllpFramePinLaw) hisR ?_
  intro p e s m args below meth c s₁ Bd hml0 hP hK
  obtain ⟨rfl, hZ, hh⟩ := hP
  have hx := Bd.exec
  have hby := Bd.bytes
  have hlk : meth.locks = false := BodyLoose.notSynchronized Bd
  have hml : c.maxLocals = 4 := hml0
  have hown : s.vm.findClass "com/example/rhythmwire/rhythmwire/hl7/MllpFramePinLaw" = some m.cls := findClass_of_methodNamed Bd.named
  have hnm := (name_of_methodNamed Bd.named Bd.method).1
  have X0 : Stand p l e ({ frames := 0, cells := 0, slots := 0, locals := 0 } : Room) s m #[(.ref a1), (.ref a2), (.int p3), (.int p4)] below meth c s₁ [] 0 0 := Stand.of_body Bd
  have e0 : s₁.heap = h0 := by rw [← hh, Bd.state]; rfl
  have N0 := Fr.nil n0
  show Go p.tables e below s (Q2o Z a1 a2 p3 p4 k1 k2 z1 z2 vs1 vs2 h0 n0) ({ frames := 0, cells := 0, slots := 0, locals := 0 } : Room).cells ({ frames := 0, cells := 0, slots := 0, locals := 0 } : Room).slots (s₁.setTop (entryFrame m #[(.ref a1), (.ref a2), (.int p3), (.int p4)] 4))
  refine Go.on (fun t k => castTop (ef_2o m a1 a2 p3 p4) k) ?_
  show Go p.tables e below s _ _ _ (s₁.setTop (mkF m 0 #[.val (.ref a1), .val (.ref a2), .val (.int p3), .val (.int p4)] []))
  refine Go.on (fun t k => XS.iloadN X0.here hx rfl (hb hby d2_0) rfl k) ?_
  show Go p.tables e below s _ _ _ (s₁.setTop (mkF m 1 #[.val (.ref a1), .val (.ref a2), .val (.int p3), .val (.int p4)] [(.int p3)]))
  refine Go.on (fun t k => XS.aloadN X0.here hx rfl (hb hby d2_1) rfl rfl k) ?_
  show Go p.tables e below s _ _ _ (s₁.setTop (mkF m 2 #[.val (.ref a1), .val (.ref a2), .val (.int p3), .val (.int p4)] [(.ref a2), (.int p3)]))
  obtain ⟨cl1, Ar1, q1, S1, M1, H1, G1⟩ := id V_a2
  refine Go.on (fun t k => X0.arraylength hx (by rw [e0]; exact Ar1.1) (State.isArrayOf_alike hZ.alike Ar1.2.1) (g := (mkF m 2 #[.val (.ref a1), .val (.ref a2), .val (.int p3), .val (.int p4)] [(.ref a2), (.int p3)])) rfl rfl (hb hby d2_2) t k) ?_
  rw [len_of S1 M1]
  show Go p.tables e below s _ _ _ (s₁.setTop (mkF m 3 #[.val (.ref a1), .val (.ref a2), .val (.int p3), .val (.int p4)] [(.int z2), (.int p3)]))
  refine Go.on (fun t k => XS.icmpNo X0.here hx rfl (hb hby d2_3) rfl (flt hout).1 k) ?_
  show Go p.tables e below s _ _ _ (s₁.setTop (mkF m 6 #[.val (.ref a1), .val (.ref a2), .val (.int p3), .val (.int p4)] []))
  refine Go.on (fun t k => XS.iconst X0.here hx rfl (hb hby d2_6) k) ?_
  show Go p.tables e below s _ _ _ (s₁.setTop (mkF m 7 #[.val (.ref a1), .val (.ref a2), .val (.int p3), .val (.int p4)] [(.int (1 : Int32))]))
  refine Go.retN X0 hx hlk (t := .boolean) Bd.returns (by simp) (hb hby d2_7) (by decide) (by decide) e0 ?_
  exact ⟨rfl, N0, rfl⟩
theorem ef_2i (m : MethodId) (x0 : Addr) (x1 : Addr) (x2 : Int32) (x3 : Int32) : entryFrame m #[(.ref x0), (.ref x1), (.int x2), (.int x3)] 4 = mkF m 0 #[.val (.ref x0), .val (.ref x1), .val (.int x2), .val (.int x3)] [] := by first | (simp [entryFrame, mkF, argsToLocals, Value.category]; done) | rfl
def Q2i (Z : State) (a1 : Addr) (a2 : Addr) (p3 : Int32) (p4 : Int32) (k1 : ClassId) (k2 : ClassId) (z1 : Int32) (z2 : Int32) (vs1 : List Value) (vs2 : List Value) (h0 : Heap) (n0 : Nat) (v : Option Value) (h : Heap) (L : List Loc) : Prop := v = some (.int (1 : Int32)) ∧ Fr n0 L ∧ h = h0
set_option maxRecDepth 65536 in
set_option maxHeartbeats 40000000 in
theorem rm2i (l : Launch) (Z : State) (a0 : Array Value) (hw : ∀ d ∈ tables_1, d.before a0 Z = true) (ws : List Jvm.Cond) (a1 : Addr) (a2 : Addr) (p3 : Int32) (p4 : Int32) (k1 : ClassId) (k2 : ClassId) (z1 : Int32) (z2 : Int32) (vs1 : List Value) (vs2 : List Value) (h0 : Heap) (n0 : Nat) (Z0 : n0 ≤ h0.size) (V_a1 : Arv Z h0 a1 k1 .byte z1 vs1 (.int (0 : Int32))) (V_a2 : Arv Z h0 a2 k2 .byte z2 vs2 (.int (0 : Int32))) (hlt : ¬ p3 < 0 ∧ p3 < z2) (hin : ¬ (p3 + (1 : Int32)) < 0 ∧ (p3 + (1 : Int32)) < z1) (h1 : vs1.getD (p3 + (1 : Int32)).toNatClampNeg (.int (0 : Int32)) = .int (p4.toInt8.toInt32)) (h2 : vs2.getD p3.toNatClampNeg (.int (0 : Int32)) = .int (p4.toInt8.toInt32)) :
    MetFree l (⟨"com/example/rhythmwire/rhythmwire/hl7/MllpFramePinLaw", "slot", "([B[BII)Z"⟩ : MethodName) (head1 (Jvm.Cond.code (⟨"com/example/rhythmwire/rhythmwire/hl7/MllpFramePinLaw", "slot", "([B[BII)Z"⟩ : MethodName) method_3_code 4 (some .boolean) :: ws) ({ frames := 0, cells := 0, slots := 0, locals := 0 } : Room)) (fun a U => a = #[(.ref a1), (.ref a2), (.int p3), (.int p4)] ∧ Z.Warmed39 U.vm ∧ U.heap = h0) (fun _ _ _ _ _ => True) (fun _ U o U' => ∃ v L, o = .returned v ∧ Q2i Z a1 a2 p3 p4 k1 k2 z1 z2 vs1 vs2 h0 n0 v U'.heap L ∧ FrameEnd U o U' L ({ frames := 0, cells := 0, slots := 0, locals := 0 } : Room).cells ({ frames := 0, cells := 0, slots := 0, locals := 0 } : Room).slots) := by
  refine MetFree.of_bodySF (plainFor_of_name pn_com_example_rhythmwire_rhythmwire_hl7_MllpFramePinLaw) hisR ?_
  intro p e s m args below meth c s₁ Bd hml0 hP hK
  obtain ⟨rfl, hZ, hh⟩ := hP
  have hx := Bd.exec
  have hby := Bd.bytes
  have hlk : meth.locks = false := BodyLoose.notSynchronized Bd
  have hml : c.maxLocals = 4 := hml0
  have hown : s.vm.findClass "com/example/rhythmwire/rhythmwire/hl7/MllpFramePinLaw" = some m.cls := findClass_of_methodNamed Bd.named
  have hnm := (name_of_methodNamed Bd.named Bd.method).1
  have X0 : Stand p l e ({ frames := 0, cells := 0, slots := 0, locals := 0 } : Room) s m #[(.ref a1), (.ref a2), (.int p3), (.int p4)] below meth c s₁ [] 0 0 := Stand.of_body Bd
  have e0 : s₁.heap = h0 := by rw [← hh, Bd.state]; rfl
  have N0 := Fr.nil n0
  show Go p.tables e below s (Q2i Z a1 a2 p3 p4 k1 k2 z1 z2 vs1 vs2 h0 n0) ({ frames := 0, cells := 0, slots := 0, locals := 0 } : Room).cells ({ frames := 0, cells := 0, slots := 0, locals := 0 } : Room).slots (s₁.setTop (entryFrame m #[(.ref a1), (.ref a2), (.int p3), (.int p4)] 4))
  refine Go.on (fun t k => castTop (ef_2i m a1 a2 p3 p4) k) ?_
  show Go p.tables e below s _ _ _ (s₁.setTop (mkF m 0 #[.val (.ref a1), .val (.ref a2), .val (.int p3), .val (.int p4)] []))
  refine Go.on (fun t k => XS.iloadN X0.here hx rfl (hb hby d2_0) rfl k) ?_
  show Go p.tables e below s _ _ _ (s₁.setTop (mkF m 1 #[.val (.ref a1), .val (.ref a2), .val (.int p3), .val (.int p4)] [(.int p3)]))
  refine Go.on (fun t k => XS.aloadN X0.here hx rfl (hb hby d2_1) rfl rfl k) ?_
  show Go p.tables e below s _ _ _ (s₁.setTop (mkF m 2 #[.val (.ref a1), .val (.ref a2), .val (.int p3), .val (.int p4)] [(.ref a2), (.int p3)]))
  obtain ⟨cl1, Ar1, q1, S1, M1, H1, G1⟩ := id V_a2
  refine Go.on (fun t k => X0.arraylength hx (by rw [e0]; exact Ar1.1) (State.isArrayOf_alike hZ.alike Ar1.2.1) (g := (mkF m 2 #[.val (.ref a1), .val (.ref a2), .val (.int p3), .val (.int p4)] [(.ref a2), (.int p3)])) rfl rfl (hb hby d2_2) t k) ?_
  rw [len_of S1 M1]
  show Go p.tables e below s _ _ _ (s₁.setTop (mkF m 3 #[.val (.ref a1), .val (.ref a2), .val (.int p3), .val (.int p4)] [(.int z2), (.int p3)]))
  refine Go.on (fun t k => XS.icmpYes X0.here hx rfl (pc0 := 3) (pc' := 8) rfl (hb hby d2_3) rfl (tlt hlt.2).1 (by decide) (by decide) k) ?_
  show Go p.tables e below s _ _ _ (s₁.setTop (mkF m 8 #[.val (.ref a1), .val (.ref a2), .val (.int p3), .val (.int p4)] []))
  refine Go.on (fun t k => XS.aloadN X0.here hx rfl (hb hby d2_8) rfl rfl k) ?_
  show Go p.tables e below s _ _ _ (s₁.setTop (mkF m 9 #[.val (.ref a1), .val (.ref a2), .val (.int p3), .val (.int p4)] [(.ref a1)]))
  refine Go.on (fun t k => XS.iloadN X0.here hx rfl (hb hby d2_9) rfl k) ?_
  show Go p.tables e below s _ _ _ (s₁.setTop (mkF m 10 #[.val (.ref a1), .val (.ref a2), .val (.int p3), .val (.int p4)] [(.int p3), (.ref a1)]))
  refine Go.on (fun t k => XS.iconst X0.here hx rfl (hb hby d2_10) k) ?_
  show Go p.tables e below s _ _ _ (s₁.setTop (mkF m 11 #[.val (.ref a1), .val (.ref a2), .val (.int p3), .val (.int p4)] [(.int (1 : Int32)), (.int p3), (.ref a1)]))
  refine Go.on (fun t k => XS.iadd X0.here hx rfl (hb hby d2_11) rfl k) ?_
  show Go p.tables e below s _ _ _ (s₁.setTop (mkF m 12 #[.val (.ref a1), .val (.ref a2), .val (.int p3), .val (.int p4)] [(.int (p3 + (1 : Int32))), (.ref a1)]))
  obtain ⟨cl2, Ar2, q2, S2, M2, H2, G2⟩ := id V_a1
  have hin2 : ¬ ((p3 + (1 : Int32)) < 0 ∨ cl2.slots.size ≤ ((p3 + (1 : Int32))).toNatClampNeg) := inb_of S2 hin
  have hat2 : cl2.slots[((p3 + (1 : Int32))).toNatClampNeg]? = some (.int (p4.toInt8.toInt32)) := H2.at hin2 h1
  refine Go.on (fun t k => X0.baloadBytes hx (j := (p3 + (1 : Int32))) (v := (.int (p4.toInt8.toInt32))) (by rw [e0]; exact Ar2.1) (State.isArrayOf_alike hZ.alike Ar2.2.1) Ar2.2.2 hin2 hat2 (g := (mkF m 12 #[.val (.ref a1), .val (.ref a2), .val (.int p3), .val (.int p4)] [(.int (p3 + (1 : Int32))), (.ref a1)])) rfl rfl (hb hby d2_12) t k) ?_
  show Go p.tables e below s _ _ _ (s₁.setTop (mkF m 13 #[.val (.ref a1), .val (.ref a2), .val (.int p3), .val (.int p4)] [(.int (p4.toInt8.toInt32))]))
  refine Go.on (fun t k => XS.iloadN X0.here hx rfl (hb hby d2_13) rfl k) ?_
  show Go p.tables e below s _ _ _ (s₁.setTop (mkF m 14 #[.val (.ref a1), .val (.ref a2), .val (.int p3), .val (.int p4)] [(.int p4), (.int (p4.toInt8.toInt32))]))
  refine Go.on (fun t k => XS.i2b X0.here hx rfl (hb hby d2_14) rfl k) ?_
  show Go p.tables e below s _ _ _ (s₁.setTop (mkF m 15 #[.val (.ref a1), .val (.ref a2), .val (.int p3), .val (.int p4)] [(.int (p4.toInt8.toInt32)), (.int (p4.toInt8.toInt32))]))
  refine Go.on (fun t k => XS.icmpNo X0.here hx rfl (hb hby d2_15) rfl (teq rfl).2 k) ?_
  show Go p.tables e below s _ _ _ (s₁.setTop (mkF m 18 #[.val (.ref a1), .val (.ref a2), .val (.int p3), .val (.int p4)] []))
  refine Go.on (fun t k => XS.aloadN X0.here hx rfl (hb hby d2_18) rfl rfl k) ?_
  show Go p.tables e below s _ _ _ (s₁.setTop (mkF m 19 #[.val (.ref a1), .val (.ref a2), .val (.int p3), .val (.int p4)] [(.ref a2)]))
  refine Go.on (fun t k => XS.iloadN X0.here hx rfl (hb hby d2_19) rfl k) ?_
  show Go p.tables e below s _ _ _ (s₁.setTop (mkF m 20 #[.val (.ref a1), .val (.ref a2), .val (.int p3), .val (.int p4)] [(.int p3), (.ref a2)]))
  obtain ⟨cl3, Ar3, q3, S3, M3, H3, G3⟩ := id V_a2
  have hin3 : ¬ (p3 < 0 ∨ cl3.slots.size ≤ (p3).toNatClampNeg) := inb_of S3 hlt
  have hat3 : cl3.slots[(p3).toNatClampNeg]? = some (.int (p4.toInt8.toInt32)) := H3.at hin3 h2
  refine Go.on (fun t k => X0.baloadBytes hx (j := p3) (v := (.int (p4.toInt8.toInt32))) (by rw [e0]; exact Ar3.1) (State.isArrayOf_alike hZ.alike Ar3.2.1) Ar3.2.2 hin3 hat3 (g := (mkF m 20 #[.val (.ref a1), .val (.ref a2), .val (.int p3), .val (.int p4)] [(.int p3), (.ref a2)])) rfl rfl (hb hby d2_20) t k) ?_
  show Go p.tables e below s _ _ _ (s₁.setTop (mkF m 21 #[.val (.ref a1), .val (.ref a2), .val (.int p3), .val (.int p4)] [(.int (p4.toInt8.toInt32))]))
  refine Go.on (fun t k => XS.iloadN X0.here hx rfl (hb hby d2_21) rfl k) ?_
  show Go p.tables e below s _ _ _ (s₁.setTop (mkF m 22 #[.val (.ref a1), .val (.ref a2), .val (.int p3), .val (.int p4)] [(.int p4), (.int (p4.toInt8.toInt32))]))
  refine Go.on (fun t k => XS.i2b X0.here hx rfl (hb hby d2_22) rfl k) ?_
  show Go p.tables e below s _ _ _ (s₁.setTop (mkF m 23 #[.val (.ref a1), .val (.ref a2), .val (.int p3), .val (.int p4)] [(.int (p4.toInt8.toInt32)), (.int (p4.toInt8.toInt32))]))
  refine Go.on (fun t k => XS.icmpNo X0.here hx rfl (hb hby d2_23) rfl (teq rfl).2 k) ?_
  show Go p.tables e below s _ _ _ (s₁.setTop (mkF m 26 #[.val (.ref a1), .val (.ref a2), .val (.int p3), .val (.int p4)] []))
  refine Go.on (fun t k => XS.iconst X0.here hx rfl (hb hby d2_26) k) ?_
  show Go p.tables e below s _ _ _ (s₁.setTop (mkF m 27 #[.val (.ref a1), .val (.ref a2), .val (.int p3), .val (.int p4)] [(.int (1 : Int32))]))
  refine Go.on (fun t k => XS.goto X0.here hx rfl (pc0 := 27) (pc' := 31) rfl (hb hby d2_27) (by decide) (by decide) k) ?_
  show Go p.tables e below s _ _ _ (s₁.setTop (mkF m 31 #[.val (.ref a1), .val (.ref a2), .val (.int p3), .val (.int p4)] [(.int (1 : Int32))]))
  refine Go.retN X0 hx hlk (t := .boolean) Bd.returns (by simp) (hb hby d2_31) (by decide) (by decide) e0 ?_
  exact ⟨rfl, N0, rfl⟩
theorem d1_0 : decode prog_23_method_2_code 0 = .ok (.aload_n 0, 1) := by decide +kernel
theorem d1_1 : decode prog_23_method_2_code 1 = .ok (.arraylength, 1) := by decide +kernel
theorem d1_2 : decode prog_23_method_2_code 2 = .ok (.iconst 3, 1) := by decide +kernel
theorem d1_3 : decode prog_23_method_2_code 3 = .ok (.iadd, 1) := by decide +kernel
theorem d1_4 : decode prog_23_method_2_code 4 = .ok (.newarray .byte, 2) := by decide +kernel
theorem d1_6 : decode prog_23_method_2_code 6 = .ok (.astore_n 1, 1) := by decide +kernel
theorem d1_7 : decode prog_23_method_2_code 7 = .ok (.aload_n 1, 1) := by decide +kernel
theorem d1_8 : decode prog_23_method_2_code 8 = .ok (.iconst 0, 1) := by decide +kernel
theorem d1_9 : decode prog_23_method_2_code 9 = .ok (.bipush 11, 2) := by decide +kernel
theorem d1_11 : decode prog_23_method_2_code 11 = .ok (.bastore, 1) := by decide +kernel
theorem d1_12 : decode prog_23_method_2_code 12 = .ok (.aload_n 0, 1) := by decide +kernel
theorem d1_13 : decode prog_23_method_2_code 13 = .ok (.iconst 0, 1) := by decide +kernel
theorem d1_14 : decode prog_23_method_2_code 14 = .ok (.aload_n 1, 1) := by decide +kernel
theorem d1_15 : decode prog_23_method_2_code 15 = .ok (.iconst 1, 1) := by decide +kernel
theorem d1_16 : decode prog_23_method_2_code 16 = .ok (.aload_n 0, 1) := by decide +kernel
theorem d1_17 : decode prog_23_method_2_code 17 = .ok (.arraylength, 1) := by decide +kernel
theorem d1_18 : decode prog_23_method_2_code 18 = .ok (.invokestatic 9, 3) := by decide +kernel
theorem d1_21 : decode prog_23_method_2_code 21 = .ok (.aload_n 1, 1) := by decide +kernel
theorem d1_22 : decode prog_23_method_2_code 22 = .ok (.aload_n 1, 1) := by decide +kernel
theorem d1_23 : decode prog_23_method_2_code 23 = .ok (.arraylength, 1) := by decide +kernel
theorem d1_24 : decode prog_23_method_2_code 24 = .ok (.iconst 2, 1) := by decide +kernel
theorem d1_25 : decode prog_23_method_2_code 25 = .ok (.isub, 1) := by decide +kernel
theorem d1_26 : decode prog_23_method_2_code 26 = .ok (.bipush 28, 2) := by decide +kernel
theorem d1_28 : decode prog_23_method_2_code 28 = .ok (.bastore, 1) := by decide +kernel
theorem d1_29 : decode prog_23_method_2_code 29 = .ok (.aload_n 1, 1) := by decide +kernel
theorem d1_30 : decode prog_23_method_2_code 30 = .ok (.aload_n 1, 1) := by decide +kernel
theorem d1_31 : decode prog_23_method_2_code 31 = .ok (.arraylength, 1) := by decide +kernel
theorem d1_32 : decode prog_23_method_2_code 32 = .ok (.iconst 1, 1) := by decide +kernel
theorem d1_33 : decode prog_23_method_2_code 33 = .ok (.isub, 1) := by decide +kernel
theorem d1_34 : decode prog_23_method_2_code 34 = .ok (.bipush 13, 2) := by decide +kernel
theorem d1_36 : decode prog_23_method_2_code 36 = .ok (.bastore, 1) := by decide +kernel
theorem d1_37 : decode prog_23_method_2_code 37 = .ok (.aload_n 1, 1) := by decide +kernel
theorem d1_38 : decode prog_23_method_2_code 38 = .ok (.areturn, 1) := by decide +kernel
theorem ef_1_0 (m : MethodId) (x0 : Addr) : entryFrame m #[(.ref x0)] 2 = mkF m 0 #[.val (.ref x0), .unset] [] := by first | (simp [entryFrame, mkF, argsToLocals, Value.category]; done) | rfl
def Q1_0 (Z : State) (a1 : Addr) (k : ClassId) (h0 : Heap) (n0 : Nat) (v : Option Value) (h : Heap) (L : List Loc) : Prop := ∃ (b : Addr), ∃ (kb : ClassId), v = some (.ref b) ∧ Fr n0 L ∧ Keep h0 h [] ∧ n0 ≤ b ∧ h0.size ≤ b ∧ Arv Z h b kb .byte (3 : Int32) [(.int (11 : Int32)), (.int (28 : Int32)), (.int (13 : Int32))] (.int (0 : Int32))
theorem pn_com_example_rhythmwire_rhythmwire_hl7_Mllp : plainName "com/example/rhythmwire/rhythmwire/hl7/Mllp" = true := by first | (simp [plainName, overriddenIn]; done) | decide +kernel
set_option maxRecDepth 65536 in
set_option maxHeartbeats 40000000 in
theorem rm1_0 (l : Launch) (Z : State) (a0 : Array Value) (hw : ∀ d ∈ tables_1, d.before a0 Z = true) (ws : List Jvm.Cond) (a1 : Addr) (k : ClassId) (h0 : Heap) (n0 : Nat) (Z0 : n0 ≤ h0.size) (V_a1 : Arv Z h0 a1 k .byte (0 : Int32) [] (.int (0 : Int32))) :
    MetFree l (⟨"com/example/rhythmwire/rhythmwire/hl7/Mllp", "frame", "([B)[B"⟩ : MethodName) (head1 (Jvm.Cond.code (⟨"com/example/rhythmwire/rhythmwire/hl7/Mllp", "frame", "([B)[B"⟩ : MethodName) prog_23_method_2_code 2 (some (.array .byte)) :: ws) ({ frames := 1, cells := 1, slots := 3, locals := 18 } : Room)) (fun a U => a = #[(.ref a1)] ∧ Z.Warmed39 U.vm ∧ U.heap = h0) (fun _ _ _ _ _ => True) (fun _ U o U' => ∃ v L, o = .returned v ∧ Q1_0 Z a1 k h0 n0 v U'.heap L ∧ FrameEnd U o U' L ({ frames := 1, cells := 1, slots := 3, locals := 18 } : Room).cells ({ frames := 1, cells := 1, slots := 3, locals := 18 } : Room).slots) := by
  refine MetFree.of_bodySF (plainFor_of_name pn_com_example_rhythmwire_rhythmwire_hl7_Mllp) hisR ?_
  intro p e s m args below meth c s₁ Bd hml0 hP hK
  obtain ⟨rfl, hZ, hh⟩ := hP
  have hx := Bd.exec
  have hby := Bd.bytes
  have hlk : meth.locks = false := BodyLoose.notSynchronized Bd
  have hml : c.maxLocals = 2 := hml0
  have hown : s.vm.findClass "com/example/rhythmwire/rhythmwire/hl7/Mllp" = some m.cls := findClass_of_methodNamed Bd.named
  have hnm := (name_of_methodNamed Bd.named Bd.method).1
  have X0 : Stand p l e ({ frames := 1, cells := 1, slots := 3, locals := 18 } : Room) s m #[(.ref a1)] below meth c s₁ [] 0 0 := Stand.of_body Bd
  have e0 : s₁.heap = h0 := by rw [← hh, Bd.state]; rfl
  have N0 := Fr.nil n0
  show Go p.tables e below s (Q1_0 Z a1 k h0 n0) ({ frames := 1, cells := 1, slots := 3, locals := 18 } : Room).cells ({ frames := 1, cells := 1, slots := 3, locals := 18 } : Room).slots (s₁.setTop (entryFrame m #[(.ref a1)] 2))
  refine Go.on (fun t k => castTop (ef_1_0 m a1) k) ?_
  show Go p.tables e below s _ _ _ (s₁.setTop (mkF m 0 #[.val (.ref a1), .unset] []))
  refine Go.on (fun t k => XS.aloadN X0.here hx rfl (hb hby d1_0) rfl rfl k) ?_
  show Go p.tables e below s _ _ _ (s₁.setTop (mkF m 1 #[.val (.ref a1), .unset] [(.ref a1)]))
  obtain ⟨cl1, Ar1, q1, S1, M1, H1, G1⟩ := id V_a1
  refine Go.on (fun t k => X0.arraylength hx (by rw [e0]; exact Ar1.1) (State.isArrayOf_alike hZ.alike Ar1.2.1) (g := (mkF m 1 #[.val (.ref a1), .unset] [(.ref a1)])) rfl rfl (hb hby d1_1) t k) ?_
  rw [len_of S1 M1]
  show Go p.tables e below s _ _ _ (s₁.setTop (mkF m 2 #[.val (.ref a1), .unset] [(.int (0 : Int32))]))
  refine Go.on (fun t k => XS.iconst X0.here hx rfl (hb hby d1_2) k) ?_
  show Go p.tables e below s _ _ _ (s₁.setTop (mkF m 3 #[.val (.ref a1), .unset] [(.int (3 : Int32)), (.int (0 : Int32))]))
  refine Go.on (fun t k => XS.iadd X0.here hx rfl (hb hby d1_3) rfl k) ?_
  show Go p.tables e below s _ _ _ (s₁.setTop (mkF m 4 #[.val (.ref a1), .unset] [(.int (3 : Int32))]))
  obtain ⟨T2, h2, k2, X2, e2, E2, A2, st2⟩ := newP X0 hx hZ (hw _ (List.mem_of_getElem? (i := 1) rfl)) e0 (g := (mkF m 4 #[.val (.ref a1), .unset] [(.int (3 : Int32))])) rfl (hb hby d1_4) rfl (by decide) (cap := 3) (by decide) (by decide) (by decide) (by decide)
  obtain ⟨b2, g2⟩ : ∃ z, z = h0.size := ⟨_, rfl⟩
  rw [← g2] at A2 st2
  have ne3 : a1 ≠ b2 := Nat.ne_of_lt (Nat.lt_of_lt_of_eq V_a1.lt g2.symm)
  have ge4 : n0 ≤ b2 := Nat.le_trans Z0 (Nat.le_of_eq g2.symm)
  have sz5 : h0.size ≤ b2 := Nat.le_trans (Keep.refl h0 []).1 (Nat.le_of_eq g2.symm)
  have V_a1_6 := V_a1.ext E2
  have Zp7 := Nat.le_trans Z0 E2.1
  have Kp8 := (Keep.refl h0 []).ext E2
  have Vb2_9 : Arv Z h2 b2 k2 .byte (3 : Int32) [(.int (0 : Int32)), (.int (0 : Int32)), (.int (0 : Int32))] (.int (0 : Int32)) := (Arv.new A2 (by decide)).pad (pad_rep [] (.int (0 : Int32)) 3)
  refine Go.on st2 ?_
  show Go p.tables e below s _ _ _ (T2.setTop (mkF m 6 #[.val (.ref a1), .unset] [(.ref b2)]))
  refine Go.on (fun t k => XS.astoreN X2.here hx rfl (hb hby d1_6) rfl rfl (l' := #[.val (.ref a1), .val (.ref b2)]) rfl k) ?_
  show Go p.tables e below s _ _ _ (T2.setTop (mkF m 7 #[.val (.ref a1), .val (.ref b2)] []))
  refine Go.on (fun t k => XS.aloadN X2.here hx rfl (hb hby d1_7) rfl rfl k) ?_
  show Go p.tables e below s _ _ _ (T2.setTop (mkF m 8 #[.val (.ref a1), .val (.ref b2)] [(.ref b2)]))
  refine Go.on (fun t k => XS.iconst X2.here hx rfl (hb hby d1_8) k) ?_
  show Go p.tables e below s _ _ _ (T2.setTop (mkF m 9 #[.val (.ref a1), .val (.ref b2)] [(.int (0 : Int32)), (.ref b2)]))
  refine Go.on (fun t k => XS.bipush X2.here hx rfl (hb hby d1_9) k) ?_
  show Go p.tables e below s _ _ _ (T2.setTop (mkF m 11 #[.val (.ref a1), .val (.ref b2)] [(.int (11 : Int32)), (.int (0 : Int32)), (.ref b2)]))
  obtain ⟨cl10, Ar10, q10, S10, M10, H10, G10⟩ := id Vb2_9
  have hin10 : ¬ ((0 : Int32) < 0 ∨ cl10.slots.size ≤ ((0 : Int32)).toNatClampNeg) := inb_of S10 ⟨by decide, by decide⟩
  obtain ⟨T10, h10, X10, e10, W10, st10⟩ := stB X2 hx hZ e2 Ar10 (j := (0 : Int32)) hin10 (g := (mkF m 11 #[.val (.ref a1), .val (.ref b2)] [(.int (11 : Int32)), (.int (0 : Int32)), (.ref b2)])) rfl rfl (hb hby d1_11)
  have Vb2_11 : Arv Z h10 b2 k2 .byte (3 : Int32) [(.int (11 : Int32)), (.int (0 : Int32)), (.int (0 : Int32))] (.int (0 : Int32)) := Arv.set Ar10 q10 S10 M10 H10 G10 (fits_nar_byte _) W10 0 rfl (Nat.le_of_ble_eq_true rfl)
  have V_a1_12 := V_a1_6.other W10 ne3
  have Zp13 := Nat.le_trans Zp7 (Keep.of_wr W10).1
  have Kp14 := Kp8.wr W10 (Or.inr sz5)
  have Np15 := Fr.snoc X10 N0 ge4
  refine Go.on st10 ?_
  show Go p.tables e below s _ _ _ (T10.setTop (mkF m 12 #[.val (.ref a1), .val (.ref b2)] []))
  refine Go.on (fun t k => XS.aloadN X10.here hx rfl (hb hby d1_12) rfl rfl k) ?_
  show Go p.tables e below s _ _ _ (T10.setTop (mkF m 13 #[.val (.ref a1), .val (.ref b2)] [(.ref a1)]))
  refine Go.on (fun t k => XS.iconst X10.here hx rfl (hb hby d1_13) k) ?_
  show Go p.tables e below s _ _ _ (T10.setTop (mkF m 14 #[.val (.ref a1), .val (.ref b2)] [(.int (0 : Int32)), (.ref a1)]))
  refine Go.on (fun t k => XS.aloadN X10.here hx rfl (hb hby d1_14) rfl rfl k) ?_
  show Go p.tables e below s _ _ _ (T10.setTop (mkF m 15 #[.val (.ref a1), .val (.ref b2)] [(.ref b2), (.int (0 : Int32)), (.ref a1)]))
  refine Go.on (fun t k => XS.iconst X10.here hx rfl (hb hby d1_15) k) ?_
  show Go p.tables e below s _ _ _ (T10.setTop (mkF m 16 #[.val (.ref a1), .val (.ref b2)] [(.int (1 : Int32)), (.ref b2), (.int (0 : Int32)), (.ref a1)]))
  refine Go.on (fun t k => XS.aloadN X10.here hx rfl (hb hby d1_16) rfl rfl k) ?_
  show Go p.tables e below s _ _ _ (T10.setTop (mkF m 17 #[.val (.ref a1), .val (.ref b2)] [(.ref a1), (.int (1 : Int32)), (.ref b2), (.int (0 : Int32)), (.ref a1)]))
  obtain ⟨cl16, Ar16, q16, S16, M16, H16, G16⟩ := id V_a1_12
  refine Go.on (fun t k => X10.arraylength hx (by rw [e10]; exact Ar16.1) (State.isArrayOf_alike hZ.alike Ar16.2.1) (g := (mkF m 17 #[.val (.ref a1), .val (.ref b2)] [(.ref a1), (.int (1 : Int32)), (.ref b2), (.int (0 : Int32)), (.ref a1)])) rfl rfl (hb hby d1_17) t k) ?_
  rw [len_of S16 M16]
  show Go p.tables e below s _ _ _ (T10.setTop (mkF m 18 #[.val (.ref a1), .val (.ref b2)] [(.int (0 : Int32)), (.int (1 : Int32)), (.ref b2), (.int (0 : Int32)), (.ref a1)]))
  obtain ⟨T17, h17, L17, X17, e17, N17, K17, V17, st17⟩ := cpA X10 hx hZ hown (hw _ (List.mem_of_getElem? (i := 6) rfl)) (hw _ (List.mem_of_getElem? (i := 9) rfl)) (hw _ (List.mem_of_getElem? (i := 7) rfl)) (hw _ (List.mem_of_getElem? (i := 8) rfl)) e10 V_a1_12 Vb2_11 (us := []) (sp := (0 : Int32)) (dp := (1 : Int32)) (nn := (0 : Int32)) (Or.inl ⟨rfl, rfl⟩) (by decide) (by decide) (by decide) (by decide) (by decide) rfl (Nat.le_of_ble_eq_true rfl) Np15 ge4 (g := (mkF m 18 #[.val (.ref a1), .val (.ref b2)] [(.int (0 : Int32)), (.int (1 : Int32)), (.ref b2), (.int (0 : Int32)), (.ref a1)])) rfl (by rw [hml]; rfl) rfl (hb hby d1_18) (by decide) (W := 0) (by show 2 * 0 + _ ≤ _; exact Nat.le_of_eq rfl) (by decide)
  have V_a1_18 := V_a1_12.keep K17 (ninS ne3 nin0)
  have Zp19 := Nat.le_trans Zp13 K17.1
  have Kp20 := Kp14.trans K17 (allS (Or.inr sz5) all0)
  have Vb2_21 : Arv Z h17 b2 k2 .byte (3 : Int32) [(.int (11 : Int32)), (.int (0 : Int32)), (.int (0 : Int32))] (.int (0 : Int32)) := V17
  refine Go.on st17 ?_
  show Go p.tables e below s _ _ _ (T17.setTop (mkF m 21 #[.val (.ref a1), .val (.ref b2)] []))
  refine Go.on (fun t k => XS.aloadN X17.here hx rfl (hb hby d1_21) rfl rfl k) ?_
  show Go p.tables e below s _ _ _ (T17.setTop (mkF m 22 #[.val (.ref a1), .val (.ref b2)] [(.ref b2)]))
  refine Go.on (fun t k => XS.aloadN X17.here hx rfl (hb hby d1_22) rfl rfl k) ?_
  show Go p.tables e below s _ _ _ (T17.setTop (mkF m 23 #[.val (.ref a1), .val (.ref b2)] [(.ref b2), (.ref b2)]))
  obtain ⟨cl22, Ar22, q22, S22, M22, H22, G22⟩ := id Vb2_21
  refine Go.on (fun t k => X17.arraylength hx (by rw [e17]; exact Ar22.1) (State.isArrayOf_alike hZ.alike Ar22.2.1) (g := (mkF m 23 #[.val (.ref a1), .val (.ref b2)] [(.ref b2), (.ref b2)])) rfl rfl (hb hby d1_23) t k) ?_
  rw [len_of S22 M22]
  show Go p.tables e below s _ _ _ (T17.setTop (mkF m 24 #[.val (.ref a1), .val (.ref b2)] [(.int (3 : Int32)), (.ref b2)]))
  refine Go.on (fun t k => XS.iconst X17.here hx rfl (hb hby d1_24) k) ?_
  show Go p.tables e below s _ _ _ (T17.setTop (mkF m 25 #[.val (.ref a1), .val (.ref b2)] [(.int (2 : Int32)), (.int (3 : Int32)), (.ref b2)]))
  refine Go.on (fun t k => XS.isub X17.here hx rfl (hb hby d1_25) rfl k) ?_
  show Go p.tables e below s _ _ _ (T17.setTop (mkF m 26 #[.val (.ref a1), .val (.ref b2)] [(.int (1 : Int32)), (.ref b2)]))
  refine Go.on (fun t k => XS.bipush X17.here hx rfl (hb hby d1_26) k) ?_
  show Go p.tables e below s _ _ _ (T17.setTop (mkF m 28 #[.val (.ref a1), .val (.ref b2)] [(.int (28 : Int32)), (.int (1 : Int32)), (.ref b2)]))
  obtain ⟨cl23, Ar23, q23, S23, M23, H23, G23⟩ := id Vb2_21
  have hin23 : ¬ ((1 : Int32) < 0 ∨ cl23.slots.size ≤ ((1 : Int32)).toNatClampNeg) := inb_of S23 ⟨by decide, by decide⟩
  obtain ⟨T23, h23, X23, e23, W23, st23⟩ := stB X17 hx hZ e17 Ar23 (j := (1 : Int32)) hin23 (g := (mkF m 28 #[.val (.ref a1), .val (.ref b2)] [(.int (28 : Int32)), (.int (1 : Int32)), (.ref b2)])) rfl rfl (hb hby d1_28)
  have Vb2_24 : Arv Z h23 b2 k2 .byte (3 : Int32) [(.int (11 : Int32)), (.int (28 : Int32)), (.int (0 : Int32))] (.int (0 : Int32)) := Arv.set Ar23 q23 S23 M23 H23 G23 (fits_nar_byte _) W23 1 rfl (Nat.le_of_ble_eq_true rfl)
  have V_a1_25 := V_a1_18.other W23 ne3
  have Zp26 := Nat.le_trans Zp19 (Keep.of_wr W23).1
  have Kp27 := Kp20.wr W23 (Or.inr sz5)
  have Np28 := Fr.snoc X23 N17 ge4
  refine Go.on st23 ?_
  show Go p.tables e below s _ _ _ (T23.setTop (mkF m 29 #[.val (.ref a1), .val (.ref b2)] []))
  refine Go.on (fun t k => XS.aloadN X23.here hx rfl (hb hby d1_29) rfl rfl k) ?_
  show Go p.tables e below s _ _ _ (T23.setTop (mkF m 30 #[.val (.ref a1), .val (.ref b2)] [(.ref b2)]))
  refine Go.on (fun t k => XS.aloadN X23.here hx rfl (hb hby d1_30) rfl rfl k) ?_
  show Go p.tables e below s _ _ _ (T23.setTop (mkF m 31 #[.val (.ref a1), .val (.ref b2)] [(.ref b2), (.ref b2)]))
  obtain ⟨cl29, Ar29, q29, S29, M29, H29, G29⟩ := id Vb2_24
  refine Go.on (fun t k => X23.arraylength hx (by rw [e23]; exact Ar29.1) (State.isArrayOf_alike hZ.alike Ar29.2.1) (g := (mkF m 31 #[.val (.ref a1), .val (.ref b2)] [(.ref b2), (.ref b2)])) rfl rfl (hb hby d1_31) t k) ?_
  rw [len_of S29 M29]
  show Go p.tables e below s _ _ _ (T23.setTop (mkF m 32 #[.val (.ref a1), .val (.ref b2)] [(.int (3 : Int32)), (.ref b2)]))
  refine Go.on (fun t k => XS.iconst X23.here hx rfl (hb hby d1_32) k) ?_
  show Go p.tables e below s _ _ _ (T23.setTop (mkF m 33 #[.val (.ref a1), .val (.ref b2)] [(.int (1 : Int32)), (.int (3 : Int32)), (.ref b2)]))
  refine Go.on (fun t k => XS.isub X23.here hx rfl (hb hby d1_33) rfl k) ?_
  show Go p.tables e below s _ _ _ (T23.setTop (mkF m 34 #[.val (.ref a1), .val (.ref b2)] [(.int (2 : Int32)), (.ref b2)]))
  refine Go.on (fun t k => XS.bipush X23.here hx rfl (hb hby d1_34) k) ?_
  show Go p.tables e below s _ _ _ (T23.setTop (mkF m 36 #[.val (.ref a1), .val (.ref b2)] [(.int (13 : Int32)), (.int (2 : Int32)), (.ref b2)]))
  obtain ⟨cl30, Ar30, q30, S30, M30, H30, G30⟩ := id Vb2_24
  have hin30 : ¬ ((2 : Int32) < 0 ∨ cl30.slots.size ≤ ((2 : Int32)).toNatClampNeg) := inb_of S30 ⟨by decide, by decide⟩
  obtain ⟨T30, h30, X30, e30, W30, st30⟩ := stB X23 hx hZ e23 Ar30 (j := (2 : Int32)) hin30 (g := (mkF m 36 #[.val (.ref a1), .val (.ref b2)] [(.int (13 : Int32)), (.int (2 : Int32)), (.ref b2)])) rfl rfl (hb hby d1_36)
  have Vb2_31 : Arv Z h30 b2 k2 .byte (3 : Int32) [(.int (11 : Int32)), (.int (28 : Int32)), (.int (13 : Int32))] (.int (0 : Int32)) := Arv.set Ar30 q30 S30 M30 H30 G30 (fits_nar_byte _) W30 2 rfl (Nat.le_of_ble_eq_true rfl)
  have V_a1_32 := V_a1_25.other W30 ne3
  have Zp33 := Nat.le_trans Zp26 (Keep.of_wr W30).1
  have Kp34 := Kp27.wr W30 (Or.inr sz5)
  have Np35 := Fr.snoc X30 Np28 ge4
  refine Go.on st30 ?_
  show Go p.tables e below s _ _ _ (T30.setTop (mkF m 37 #[.val (.ref a1), .val (.ref b2)] []))
  refine Go.on (fun t k => XS.aloadN X30.here hx rfl (hb hby d1_37) rfl rfl k) ?_
  show Go p.tables e below s _ _ _ (T30.setTop (mkF m 38 #[.val (.ref a1), .val (.ref b2)] [(.ref b2)]))
  refine Go.retA X30 hx hlk (w := (.ref b2)) rfl Bd.returns rfl (hb hby d1_38) (by decide) (by decide) e30 ?_
  exact ⟨b2, k2, rfl, Np35, Kp34, ge4, sz5, Vb2_31⟩
theorem ef_1_1 (m : MethodId) (x0 : Addr) : entryFrame m #[(.ref x0)] 2 = mkF m 0 #[.val (.ref x0), .unset] [] := by first | (simp [entryFrame, mkF, argsToLocals, Value.category]; done) | rfl
def Q1_1 (Z : State) (a1 : Addr) (k : ClassId) (x0 : Int32) (h0 : Heap) (n0 : Nat) (v : Option Value) (h : Heap) (L : List Loc) : Prop := ∃ (b : Addr), ∃ (kb : ClassId), v = some (.ref b) ∧ Fr n0 L ∧ Keep h0 h [] ∧ n0 ≤ b ∧ h0.size ≤ b ∧ Arv Z h b kb .byte (4 : Int32) [(.int (11 : Int32)), (.int x0), (.int (28 : Int32)), (.int (13 : Int32))] (.int (0 : Int32))
set_option maxRecDepth 65536 in
set_option maxHeartbeats 40000000 in
theorem rm1_1 (l : Launch) (Z : State) (a0 : Array Value) (hw : ∀ d ∈ tables_1, d.before a0 Z = true) (ws : List Jvm.Cond) (a1 : Addr) (k : ClassId) (x0 : Int32) (h0 : Heap) (n0 : Nat) (Z0 : n0 ≤ h0.size) (V_a1 : Arv Z h0 a1 k .byte (1 : Int32) [(.int x0)] (.int (0 : Int32))) :
    MetFree l (⟨"com/example/rhythmwire/rhythmwire/hl7/Mllp", "frame", "([B)[B"⟩ : MethodName) (head1 (Jvm.Cond.code (⟨"com/example/rhythmwire/rhythmwire/hl7/Mllp", "frame", "([B)[B"⟩ : MethodName) prog_23_method_2_code 2 (some (.array .byte)) :: ws) ({ frames := 1, cells := 1, slots := 4, locals := 18 } : Room)) (fun a U => a = #[(.ref a1)] ∧ Z.Warmed39 U.vm ∧ U.heap = h0) (fun _ _ _ _ _ => True) (fun _ U o U' => ∃ v L, o = .returned v ∧ Q1_1 Z a1 k x0 h0 n0 v U'.heap L ∧ FrameEnd U o U' L ({ frames := 1, cells := 1, slots := 4, locals := 18 } : Room).cells ({ frames := 1, cells := 1, slots := 4, locals := 18 } : Room).slots) := by
  refine MetFree.of_bodySF (plainFor_of_name pn_com_example_rhythmwire_rhythmwire_hl7_Mllp) hisR ?_
  intro p e s m args below meth c s₁ Bd hml0 hP hK
  obtain ⟨rfl, hZ, hh⟩ := hP
  have hx := Bd.exec
  have hby := Bd.bytes
  have hlk : meth.locks = false := BodyLoose.notSynchronized Bd
  have hml : c.maxLocals = 2 := hml0
  have hown : s.vm.findClass "com/example/rhythmwire/rhythmwire/hl7/Mllp" = some m.cls := findClass_of_methodNamed Bd.named
  have hnm := (name_of_methodNamed Bd.named Bd.method).1
  have X0 : Stand p l e ({ frames := 1, cells := 1, slots := 4, locals := 18 } : Room) s m #[(.ref a1)] below meth c s₁ [] 0 0 := Stand.of_body Bd
  have e0 : s₁.heap = h0 := by rw [← hh, Bd.state]; rfl
  have N0 := Fr.nil n0
  show Go p.tables e below s (Q1_1 Z a1 k x0 h0 n0) ({ frames := 1, cells := 1, slots := 4, locals := 18 } : Room).cells ({ frames := 1, cells := 1, slots := 4, locals := 18 } : Room).slots (s₁.setTop (entryFrame m #[(.ref a1)] 2))
  refine Go.on (fun t k => castTop (ef_1_1 m a1) k) ?_
  show Go p.tables e below s _ _ _ (s₁.setTop (mkF m 0 #[.val (.ref a1), .unset] []))
  refine Go.on (fun t k => XS.aloadN X0.here hx rfl (hb hby d1_0) rfl rfl k) ?_
  show Go p.tables e below s _ _ _ (s₁.setTop (mkF m 1 #[.val (.ref a1), .unset] [(.ref a1)]))
  obtain ⟨cl1, Ar1, q1, S1, M1, H1, G1⟩ := id V_a1
  refine Go.on (fun t k => X0.arraylength hx (by rw [e0]; exact Ar1.1) (State.isArrayOf_alike hZ.alike Ar1.2.1) (g := (mkF m 1 #[.val (.ref a1), .unset] [(.ref a1)])) rfl rfl (hb hby d1_1) t k) ?_
  rw [len_of S1 M1]
  show Go p.tables e below s _ _ _ (s₁.setTop (mkF m 2 #[.val (.ref a1), .unset] [(.int (1 : Int32))]))
  refine Go.on (fun t k => XS.iconst X0.here hx rfl (hb hby d1_2) k) ?_
  show Go p.tables e below s _ _ _ (s₁.setTop (mkF m 3 #[.val (.ref a1), .unset] [(.int (3 : Int32)), (.int (1 : Int32))]))
  refine Go.on (fun t k => XS.iadd X0.here hx rfl (hb hby d1_3) rfl k) ?_
  show Go p.tables e below s _ _ _ (s₁.setTop (mkF m 4 #[.val (.ref a1), .unset] [(.int (4 : Int32))]))
  obtain ⟨T2, h2, k2, X2, e2, E2, A2, st2⟩ := newP X0 hx hZ (hw _ (List.mem_of_getElem? (i := 1) rfl)) e0 (g := (mkF m 4 #[.val (.ref a1), .unset] [(.int (4 : Int32))])) rfl (hb hby d1_4) rfl (by decide) (cap := 4) (by decide) (by decide) (by decide) (by decide)
  obtain ⟨b2, g2⟩ : ∃ z, z = h0.size := ⟨_, rfl⟩
  rw [← g2] at A2 st2
  have ne3 : a1 ≠ b2 := Nat.ne_of_lt (Nat.lt_of_lt_of_eq V_a1.lt g2.symm)
  have ge4 : n0 ≤ b2 := Nat.le_trans Z0 (Nat.le_of_eq g2.symm)
  have sz5 : h0.size ≤ b2 := Nat.le_trans (Keep.refl h0 []).1 (Nat.le_of_eq g2.symm)
  have V_a1_6 := V_a1.ext E2
  have Zp7 := Nat.le_trans Z0 E2.1
  have Kp8 := (Keep.refl h0 []).ext E2
  have Vb2_9 : Arv Z h2 b2 k2 .byte (4 : Int32) [(.int (0 : Int32)), (.int (0 : Int32)), (.int (0 : Int32)), (.int (0 : Int32))] (.int (0 : Int32)) := (Arv.new A2 (by decide)).pad (pad_rep [] (.int (0 : Int32)) 4)
  refine Go.on st2 ?_
  show Go p.tables e below s _ _ _ (T2.setTop (mkF m 6 #[.val (.ref a1), .unset] [(.ref b2)]))
  refine Go.on (fun t k => XS.astoreN X2.here hx rfl (hb hby d1_6) rfl rfl (l' := #[.val (.ref a1), .val (.ref b2)]) rfl k) ?_
  show Go p.tables e below s _ _ _ (T2.setTop (mkF m 7 #[.val (.ref a1), .val (.ref b2)] []))
  refine Go.on (fun t k => XS.aloadN X2.here hx rfl (hb hby d1_7) rfl rfl k) ?_
  show Go p.tables e below s _ _ _ (T2.setTop (mkF m 8 #[.val (.ref a1), .val (.ref b2)] [(.ref b2)]))
  refine Go.on (fun t k => XS.iconst X2.here hx rfl (hb hby d1_8) k) ?_
  show Go p.tables e below s _ _ _ (T2.setTop (mkF m 9 #[.val (.ref a1), .val (.ref b2)] [(.int (0 : Int32)), (.ref b2)]))
  refine Go.on (fun t k => XS.bipush X2.here hx rfl (hb hby d1_9) k) ?_
  show Go p.tables e below s _ _ _ (T2.setTop (mkF m 11 #[.val (.ref a1), .val (.ref b2)] [(.int (11 : Int32)), (.int (0 : Int32)), (.ref b2)]))
  obtain ⟨cl10, Ar10, q10, S10, M10, H10, G10⟩ := id Vb2_9
  have hin10 : ¬ ((0 : Int32) < 0 ∨ cl10.slots.size ≤ ((0 : Int32)).toNatClampNeg) := inb_of S10 ⟨by decide, by decide⟩
  obtain ⟨T10, h10, X10, e10, W10, st10⟩ := stB X2 hx hZ e2 Ar10 (j := (0 : Int32)) hin10 (g := (mkF m 11 #[.val (.ref a1), .val (.ref b2)] [(.int (11 : Int32)), (.int (0 : Int32)), (.ref b2)])) rfl rfl (hb hby d1_11)
  have Vb2_11 : Arv Z h10 b2 k2 .byte (4 : Int32) [(.int (11 : Int32)), (.int (0 : Int32)), (.int (0 : Int32)), (.int (0 : Int32))] (.int (0 : Int32)) := Arv.set Ar10 q10 S10 M10 H10 G10 (fits_nar_byte _) W10 0 rfl (Nat.le_of_ble_eq_true rfl)
  have V_a1_12 := V_a1_6.other W10 ne3
  have Zp13 := Nat.le_trans Zp7 (Keep.of_wr W10).1
  have Kp14 := Kp8.wr W10 (Or.inr sz5)
  have Np15 := Fr.snoc X10 N0 ge4
  refine Go.on st10 ?_
  show Go p.tables e below s _ _ _ (T10.setTop (mkF m 12 #[.val (.ref a1), .val (.ref b2)] []))
  refine Go.on (fun t k => XS.aloadN X10.here hx rfl (hb hby d1_12) rfl rfl k) ?_
  show Go p.tables e below s _ _ _ (T10.setTop (mkF m 13 #[.val (.ref a1), .val (.ref b2)] [(.ref a1)]))
  refine Go.on (fun t k => XS.iconst X10.here hx rfl (hb hby d1_13) k) ?_
  show Go p.tables e below s _ _ _ (T10.setTop (mkF m 14 #[.val (.ref a1), .val (.ref b2)] [(.int (0 : Int32)), (.ref a1)]))
  refine Go.on (fun t k => XS.aloadN X10.here hx rfl (hb hby d1_14) rfl rfl k) ?_
  show Go p.tables e below s _ _ _ (T10.setTop (mkF m 15 #[.val (.ref a1), .val (.ref b2)] [(.ref b2), (.int (0 : Int32)), (.ref a1)]))
  refine Go.on (fun t k => XS.iconst X10.here hx rfl (hb hby d1_15) k) ?_
  show Go p.tables e below s _ _ _ (T10.setTop (mkF m 16 #[.val (.ref a1), .val (.ref b2)] [(.int (1 : Int32)), (.ref b2), (.int (0 : Int32)), (.ref a1)]))
  refine Go.on (fun t k => XS.aloadN X10.here hx rfl (hb hby d1_16) rfl rfl k) ?_
  show Go p.tables e below s _ _ _ (T10.setTop (mkF m 17 #[.val (.ref a1), .val (.ref b2)] [(.ref a1), (.int (1 : Int32)), (.ref b2), (.int (0 : Int32)), (.ref a1)]))
  obtain ⟨cl16, Ar16, q16, S16, M16, H16, G16⟩ := id V_a1_12
  refine Go.on (fun t k => X10.arraylength hx (by rw [e10]; exact Ar16.1) (State.isArrayOf_alike hZ.alike Ar16.2.1) (g := (mkF m 17 #[.val (.ref a1), .val (.ref b2)] [(.ref a1), (.int (1 : Int32)), (.ref b2), (.int (0 : Int32)), (.ref a1)])) rfl rfl (hb hby d1_17) t k) ?_
  rw [len_of S16 M16]
  show Go p.tables e below s _ _ _ (T10.setTop (mkF m 18 #[.val (.ref a1), .val (.ref b2)] [(.int (1 : Int32)), (.int (1 : Int32)), (.ref b2), (.int (0 : Int32)), (.ref a1)]))
  obtain ⟨T17, h17, L17, X17, e17, N17, K17, V17, st17⟩ := cpA X10 hx hZ hown (hw _ (List.mem_of_getElem? (i := 6) rfl)) (hw _ (List.mem_of_getElem? (i := 9) rfl)) (hw _ (List.mem_of_getElem? (i := 7) rfl)) (hw _ (List.mem_of_getElem? (i := 8) rfl)) e10 V_a1_12 Vb2_11 (us := [(.int x0)]) (sp := (0 : Int32)) (dp := (1 : Int32)) (nn := (1 : Int32)) (Or.inl ⟨rfl, rfl⟩) (by decide) (by decide) (by decide) (by decide) (by decide) rfl (Nat.le_of_ble_eq_true rfl) Np15 ge4 (g := (mkF m 18 #[.val (.ref a1), .val (.ref b2)] [(.int (1 : Int32)), (.int (1 : Int32)), (.ref b2), (.int (0 : Int32)), (.ref a1)])) rfl (by rw [hml]; rfl) rfl (hb hby d1_18) (by decide) (W := 0) (by show 2 * 0 + _ ≤ _; exact Nat.le_of_eq rfl) (by decide)
  have V_a1_18 := V_a1_12.keep K17 (ninS ne3 nin0)
  have Zp19 := Nat.le_trans Zp13 K17.1
  have Kp20 := Kp14.trans K17 (allS (Or.inr sz5) all0)
  have Vb2_21 : Arv Z h17 b2 k2 .byte (4 : Int32) [(.int (11 : Int32)), (.int x0), (.int (0 : Int32)), (.int (0 : Int32))] (.int (0 : Int32)) := V17
  refine Go.on st17 ?_
  show Go p.tables e below s _ _ _ (T17.setTop (mkF m 21 #[.val (.ref a1), .val (.ref b2)] []))
  refine Go.on (fun t k => XS.aloadN X17.here hx rfl (hb hby d1_21) rfl rfl k) ?_
  show Go p.tables e below s _ _ _ (T17.setTop (mkF m 22 #[.val (.ref a1), .val (.ref b2)] [(.ref b2)]))
  refine Go.on (fun t k => XS.aloadN X17.here hx rfl (hb hby d1_22) rfl rfl k) ?_
  show Go p.tables e below s _ _ _ (T17.setTop (mkF m 23 #[.val (.ref a1), .val (.ref b2)] [(.ref b2), (.ref b2)]))
  obtain ⟨cl22, Ar22, q22, S22, M22, H22, G22⟩ := id Vb2_21
  refine Go.on (fun t k => X17.arraylength hx (by rw [e17]; exact Ar22.1) (State.isArrayOf_alike hZ.alike Ar22.2.1) (g := (mkF m 23 #[.val (.ref a1), .val (.ref b2)] [(.ref b2), (.ref b2)])) rfl rfl (hb hby d1_23) t k) ?_
  rw [len_of S22 M22]
  show Go p.tables e below s _ _ _ (T17.setTop (mkF m 24 #[.val (.ref a1), .val (.ref b2)] [(.int (4 : Int32)), (.ref b2)]))
  refine Go.on (fun t k => XS.iconst X17.here hx rfl (hb hby d1_24) k) ?_
  show Go p.tables e below s _ _ _ (T17.setTop (mkF m 25 #[.val (.ref a1), .val (.ref b2)] [(.int (2 : Int32)), (.int (4 : Int32)), (.ref b2)]))
  refine Go.on (fun t k => XS.isub X17.here hx rfl (hb hby d1_25) rfl k) ?_
  show Go p.tables e below s _ _ _ (T17.setTop (mkF m 26 #[.val (.ref a1), .val (.ref b2)] [(.int (2 : Int32)), (.ref b2)]))
  refine Go.on (fun t k => XS.bipush X17.here hx rfl (hb hby d1_26) k) ?_
  show Go p.tables e below s _ _ _ (T17.setTop (mkF m 28 #[.val (.ref a1), .val (.ref b2)] [(.int (28 : Int32)), (.int (2 : Int32)), (.ref b2)]))
  obtain ⟨cl23, Ar23, q23, S23, M23, H23, G23⟩ := id Vb2_21
  have hin23 : ¬ ((2 : Int32) < 0 ∨ cl23.slots.size ≤ ((2 : Int32)).toNatClampNeg) := inb_of S23 ⟨by decide, by decide⟩
  obtain ⟨T23, h23, X23, e23, W23, st23⟩ := stB X17 hx hZ e17 Ar23 (j := (2 : Int32)) hin23 (g := (mkF m 28 #[.val (.ref a1), .val (.ref b2)] [(.int (28 : Int32)), (.int (2 : Int32)), (.ref b2)])) rfl rfl (hb hby d1_28)
  have Vb2_24 : Arv Z h23 b2 k2 .byte (4 : Int32) [(.int (11 : Int32)), (.int x0), (.int (28 : Int32)), (.int (0 : Int32))] (.int (0 : Int32)) := Arv.set Ar23 q23 S23 M23 H23 G23 (fits_nar_byte _) W23 2 rfl (Nat.le_of_ble_eq_true rfl)
  have V_a1_25 := V_a1_18.other W23 ne3
  have Zp26 := Nat.le_trans Zp19 (Keep.of_wr W23).1
  have Kp27 := Kp20.wr W23 (Or.inr sz5)
  have Np28 := Fr.snoc X23 N17 ge4
  refine Go.on st23 ?_
  show Go p.tables e below s _ _ _ (T23.setTop (mkF m 29 #[.val (.ref a1), .val (.ref b2)] []))
  refine Go.on (fun t k => XS.aloadN X23.here hx rfl (hb hby d1_29) rfl rfl k) ?_
  show Go p.tables e below s _ _ _ (T23.setTop (mkF m 30 #[.val (.ref a1), .val (.ref b2)] [(.ref b2)]))
  refine Go.on (fun t k => XS.aloadN X23.here hx rfl (hb hby d1_30) rfl rfl k) ?_
  show Go p.tables e below s _ _ _ (T23.setTop (mkF m 31 #[.val (.ref a1), .val (.ref b2)] [(.ref b2), (.ref b2)]))
  obtain ⟨cl29, Ar29, q29, S29, M29, H29, G29⟩ := id Vb2_24
  refine Go.on (fun t k => X23.arraylength hx (by rw [e23]; exact Ar29.1) (State.isArrayOf_alike hZ.alike Ar29.2.1) (g := (mkF m 31 #[.val (.ref a1), .val (.ref b2)] [(.ref b2), (.ref b2)])) rfl rfl (hb hby d1_31) t k) ?_
  rw [len_of S29 M29]
  show Go p.tables e below s _ _ _ (T23.setTop (mkF m 32 #[.val (.ref a1), .val (.ref b2)] [(.int (4 : Int32)), (.ref b2)]))
  refine Go.on (fun t k => XS.iconst X23.here hx rfl (hb hby d1_32) k) ?_
  show Go p.tables e below s _ _ _ (T23.setTop (mkF m 33 #[.val (.ref a1), .val (.ref b2)] [(.int (1 : Int32)), (.int (4 : Int32)), (.ref b2)]))
  refine Go.on (fun t k => XS.isub X23.here hx rfl (hb hby d1_33) rfl k) ?_
  show Go p.tables e below s _ _ _ (T23.setTop (mkF m 34 #[.val (.ref a1), .val (.ref b2)] [(.int (3 : Int32)), (.ref b2)]))
  refine Go.on (fun t k => XS.bipush X23.here hx rfl (hb hby d1_34) k) ?_
  show Go p.tables e below s _ _ _ (T23.setTop (mkF m 36 #[.val (.ref a1), .val (.ref b2)] [(.int (13 : Int32)), (.int (3 : Int32)), (.ref b2)]))
  obtain ⟨cl30, Ar30, q30, S30, M30, H30, G30⟩ := id Vb2_24
  have hin30 : ¬ ((3 : Int32) < 0 ∨ cl30.slots.size ≤ ((3 : Int32)).toNatClampNeg) := inb_of S30 ⟨by decide, by decide⟩
  obtain ⟨T30, h30, X30, e30, W30, st30⟩ := stB X23 hx hZ e23 Ar30 (j := (3 : Int32)) hin30 (g := (mkF m 36 #[.val (.ref a1), .val (.ref b2)] [(.int (13 : Int32)), (.int (3 : Int32)), (.ref b2)])) rfl rfl (hb hby d1_36)
  have Vb2_31 : Arv Z h30 b2 k2 .byte (4 : Int32) [(.int (11 : Int32)), (.int x0), (.int (28 : Int32)), (.int (13 : Int32))] (.int (0 : Int32)) := Arv.set Ar30 q30 S30 M30 H30 G30 (fits_nar_byte _) W30 3 rfl (Nat.le_of_ble_eq_true rfl)
  have V_a1_32 := V_a1_25.other W30 ne3
  have Zp33 := Nat.le_trans Zp26 (Keep.of_wr W30).1
  have Kp34 := Kp27.wr W30 (Or.inr sz5)
  have Np35 := Fr.snoc X30 Np28 ge4
  refine Go.on st30 ?_
  show Go p.tables e below s _ _ _ (T30.setTop (mkF m 37 #[.val (.ref a1), .val (.ref b2)] []))
  refine Go.on (fun t k => XS.aloadN X30.here hx rfl (hb hby d1_37) rfl rfl k) ?_
  show Go p.tables e below s _ _ _ (T30.setTop (mkF m 38 #[.val (.ref a1), .val (.ref b2)] [(.ref b2)]))
  refine Go.retA X30 hx hlk (w := (.ref b2)) rfl Bd.returns rfl (hb hby d1_38) (by decide) (by decide) e30 ?_
  exact ⟨b2, k2, rfl, Np35, Kp34, ge4, sz5, Vb2_31⟩
theorem ef_1_2 (m : MethodId) (x0 : Addr) : entryFrame m #[(.ref x0)] 2 = mkF m 0 #[.val (.ref x0), .unset] [] := by first | (simp [entryFrame, mkF, argsToLocals, Value.category]; done) | rfl
def Q1_2 (Z : State) (a1 : Addr) (k : ClassId) (x0 : Int32) (x1 : Int32) (h0 : Heap) (n0 : Nat) (v : Option Value) (h : Heap) (L : List Loc) : Prop := ∃ (b : Addr), ∃ (kb : ClassId), v = some (.ref b) ∧ Fr n0 L ∧ Keep h0 h [] ∧ n0 ≤ b ∧ h0.size ≤ b ∧ Arv Z h b kb .byte (5 : Int32) [(.int (11 : Int32)), (.int x0), (.int x1), (.int (28 : Int32)), (.int (13 : Int32))] (.int (0 : Int32))
set_option maxRecDepth 65536 in
set_option maxHeartbeats 40000000 in
theorem rm1_2 (l : Launch) (Z : State) (a0 : Array Value) (hw : ∀ d ∈ tables_1, d.before a0 Z = true) (ws : List Jvm.Cond) (a1 : Addr) (k : ClassId) (x0 : Int32) (x1 : Int32) (h0 : Heap) (n0 : Nat) (Z0 : n0 ≤ h0.size) (V_a1 : Arv Z h0 a1 k .byte (2 : Int32) [(.int x0), (.int x1)] (.int (0 : Int32))) :
    MetFree l (⟨"com/example/rhythmwire/rhythmwire/hl7/Mllp", "frame", "([B)[B"⟩ : MethodName) (head1 (Jvm.Cond.code (⟨"com/example/rhythmwire/rhythmwire/hl7/Mllp", "frame", "([B)[B"⟩ : MethodName) prog_23_method_2_code 2 (some (.array .byte)) :: ws) ({ frames := 1, cells := 1, slots := 5, locals := 18 } : Room)) (fun a U => a = #[(.ref a1)] ∧ Z.Warmed39 U.vm ∧ U.heap = h0) (fun _ _ _ _ _ => True) (fun _ U o U' => ∃ v L, o = .returned v ∧ Q1_2 Z a1 k x0 x1 h0 n0 v U'.heap L ∧ FrameEnd U o U' L ({ frames := 1, cells := 1, slots := 5, locals := 18 } : Room).cells ({ frames := 1, cells := 1, slots := 5, locals := 18 } : Room).slots) := by
  refine MetFree.of_bodySF (plainFor_of_name pn_com_example_rhythmwire_rhythmwire_hl7_Mllp) hisR ?_
  intro p e s m args below meth c s₁ Bd hml0 hP hK
  obtain ⟨rfl, hZ, hh⟩ := hP
  have hx := Bd.exec
  have hby := Bd.bytes
  have hlk : meth.locks = false := BodyLoose.notSynchronized Bd
  have hml : c.maxLocals = 2 := hml0
  have hown : s.vm.findClass "com/example/rhythmwire/rhythmwire/hl7/Mllp" = some m.cls := findClass_of_methodNamed Bd.named
  have hnm := (name_of_methodNamed Bd.named Bd.method).1
  have X0 : Stand p l e ({ frames := 1, cells := 1, slots := 5, locals := 18 } : Room) s m #[(.ref a1)] below meth c s₁ [] 0 0 := Stand.of_body Bd
  have e0 : s₁.heap = h0 := by rw [← hh, Bd.state]; rfl
  have N0 := Fr.nil n0
  show Go p.tables e below s (Q1_2 Z a1 k x0 x1 h0 n0) ({ frames := 1, cells := 1, slots := 5, locals := 18 } : Room).cells ({ frames := 1, cells := 1, slots := 5, locals := 18 } : Room).slots (s₁.setTop (entryFrame m #[(.ref a1)] 2))
  refine Go.on (fun t k => castTop (ef_1_2 m a1) k) ?_
  show Go p.tables e below s _ _ _ (s₁.setTop (mkF m 0 #[.val (.ref a1), .unset] []))
  refine Go.on (fun t k => XS.aloadN X0.here hx rfl (hb hby d1_0) rfl rfl k) ?_
  show Go p.tables e below s _ _ _ (s₁.setTop (mkF m 1 #[.val (.ref a1), .unset] [(.ref a1)]))
  obtain ⟨cl1, Ar1, q1, S1, M1, H1, G1⟩ := id V_a1
  refine Go.on (fun t k => X0.arraylength hx (by rw [e0]; exact Ar1.1) (State.isArrayOf_alike hZ.alike Ar1.2.1) (g := (mkF m 1 #[.val (.ref a1), .unset] [(.ref a1)])) rfl rfl (hb hby d1_1) t k) ?_
  rw [len_of S1 M1]
  show Go p.tables e below s _ _ _ (s₁.setTop (mkF m 2 #[.val (.ref a1), .unset] [(.int (2 : Int32))]))
  refine Go.on (fun t k => XS.iconst X0.here hx rfl (hb hby d1_2) k) ?_
  show Go p.tables e below s _ _ _ (s₁.setTop (mkF m 3 #[.val (.ref a1), .unset] [(.int (3 : Int32)), (.int (2 : Int32))]))
  refine Go.on (fun t k => XS.iadd X0.here hx rfl (hb hby d1_3) rfl k) ?_
  show Go p.tables e below s _ _ _ (s₁.setTop (mkF m 4 #[.val (.ref a1), .unset] [(.int (5 : Int32))]))
  obtain ⟨T2, h2, k2, X2, e2, E2, A2, st2⟩ := newP X0 hx hZ (hw _ (List.mem_of_getElem? (i := 1) rfl)) e0 (g := (mkF m 4 #[.val (.ref a1), .unset] [(.int (5 : Int32))])) rfl (hb hby d1_4) rfl (by decide) (cap := 5) (by decide) (by decide) (by decide) (by decide)
  obtain ⟨b2, g2⟩ : ∃ z, z = h0.size := ⟨_, rfl⟩
  rw [← g2] at A2 st2
  have ne3 : a1 ≠ b2 := Nat.ne_of_lt (Nat.lt_of_lt_of_eq V_a1.lt g2.symm)
  have ge4 : n0 ≤ b2 := Nat.le_trans Z0 (Nat.le_of_eq g2.symm)
  have sz5 : h0.size ≤ b2 := Nat.le_trans (Keep.refl h0 []).1 (Nat.le_of_eq g2.symm)
  have V_a1_6 := V_a1.ext E2
  have Zp7 := Nat.le_trans Z0 E2.1
  have Kp8 := (Keep.refl h0 []).ext E2
  have Vb2_9 : Arv Z h2 b2 k2 .byte (5 : Int32) [(.int (0 : Int32)), (.int (0 : Int32)), (.int (0 : Int32)), (.int (0 : Int32)), (.int (0 : Int32))] (.int (0 : Int32)) := (Arv.new A2 (by decide)).pad (pad_rep [] (.int (0 : Int32)) 5)
  refine Go.on st2 ?_
  show Go p.tables e below s _ _ _ (T2.setTop (mkF m 6 #[.val (.ref a1), .unset] [(.ref b2)]))
  refine Go.on (fun t k => XS.astoreN X2.here hx rfl (hb hby d1_6) rfl rfl (l' := #[.val (.ref a1), .val (.ref b2)]) rfl k) ?_
  show Go p.tables e below s _ _ _ (T2.setTop (mkF m 7 #[.val (.ref a1), .val (.ref b2)] []))
  refine Go.on (fun t k => XS.aloadN X2.here hx rfl (hb hby d1_7) rfl rfl k) ?_
  show Go p.tables e below s _ _ _ (T2.setTop (mkF m 8 #[.val (.ref a1), .val (.ref b2)] [(.ref b2)]))
  refine Go.on (fun t k => XS.iconst X2.here hx rfl (hb hby d1_8) k) ?_
  show Go p.tables e below s _ _ _ (T2.setTop (mkF m 9 #[.val (.ref a1), .val (.ref b2)] [(.int (0 : Int32)), (.ref b2)]))
  refine Go.on (fun t k => XS.bipush X2.here hx rfl (hb hby d1_9) k) ?_
  show Go p.tables e below s _ _ _ (T2.setTop (mkF m 11 #[.val (.ref a1), .val (.ref b2)] [(.int (11 : Int32)), (.int (0 : Int32)), (.ref b2)]))
  obtain ⟨cl10, Ar10, q10, S10, M10, H10, G10⟩ := id Vb2_9
  have hin10 : ¬ ((0 : Int32) < 0 ∨ cl10.slots.size ≤ ((0 : Int32)).toNatClampNeg) := inb_of S10 ⟨by decide, by decide⟩
  obtain ⟨T10, h10, X10, e10, W10, st10⟩ := stB X2 hx hZ e2 Ar10 (j := (0 : Int32)) hin10 (g := (mkF m 11 #[.val (.ref a1), .val (.ref b2)] [(.int (11 : Int32)), (.int (0 : Int32)), (.ref b2)])) rfl rfl (hb hby d1_11)
  have Vb2_11 : Arv Z h10 b2 k2 .byte (5 : Int32) [(.int (11 : Int32)), (.int (0 : Int32)), (.int (0 : Int32)), (.int (0 : Int32)), (.int (0 : Int32))] (.int (0 : Int32)) := Arv.set Ar10 q10 S10 M10 H10 G10 (fits_nar_byte _) W10 0 rfl (Nat.le_of_ble_eq_true rfl)
  have V_a1_12 := V_a1_6.other W10 ne3
  have Zp13 := Nat.le_trans Zp7 (Keep.of_wr W10).1
  have Kp14 := Kp8.wr W10 (Or.inr sz5)
  have Np15 := Fr.snoc X10 N0 ge4
  refine Go.on st10 ?_
  show Go p.tables e below s _ _ _ (T10.setTop (mkF m 12 #[.val (.ref a1), .val (.ref b2)] []))
  refine Go.on (fun t k => XS.aloadN X10.here hx rfl (hb hby d1_12) rfl rfl k) ?_
  show Go p.tables e below s _ _ _ (T10.setTop (mkF m 13 #[.val (.ref a1), .val (.ref b2)] [(.ref a1)]))
  refine Go.on (fun t k => XS.iconst X10.here hx rfl (hb hby d1_13) k) ?_
  show Go p.tables e below s _ _ _ (T10.setTop (mkF m 14 #[.val (.ref a1), .val (.ref b2)] [(.int (0 : Int32)), (.ref a1)]))
  refine Go.on (fun t k => XS.aloadN X10.here hx rfl (hb hby d1_14) rfl rfl k) ?_
  show Go p.tables e below s _ _ _ (T10.setTop (mkF m 15 #[.val (.ref a1), .val (.ref b2)] [(.ref b2), (.int (0 : Int32)), (.ref a1)]))
  refine Go.on (fun t k => XS.iconst X10.here hx rfl (hb hby d1_15) k) ?_
  show Go p.tables e below s _ _ _ (T10.setTop (mkF m 16 #[.val (.ref a1), .val (.ref b2)] [(.int (1 : Int32)), (.ref b2), (.int (0 : Int32)), (.ref a1)]))
  refine Go.on (fun t k => XS.aloadN X10.here hx rfl (hb hby d1_16) rfl rfl k) ?_
  show Go p.tables e below s _ _ _ (T10.setTop (mkF m 17 #[.val (.ref a1), .val (.ref b2)] [(.ref a1), (.int (1 : Int32)), (.ref b2), (.int (0 : Int32)), (.ref a1)]))
  obtain ⟨cl16, Ar16, q16, S16, M16, H16, G16⟩ := id V_a1_12
  refine Go.on (fun t k => X10.arraylength hx (by rw [e10]; exact Ar16.1) (State.isArrayOf_alike hZ.alike Ar16.2.1) (g := (mkF m 17 #[.val (.ref a1), .val (.ref b2)] [(.ref a1), (.int (1 : Int32)), (.ref b2), (.int (0 : Int32)), (.ref a1)])) rfl rfl (hb hby d1_17) t k) ?_
  rw [len_of S16 M16]
  show Go p.tables e below s _ _ _ (T10.setTop (mkF m 18 #[.val (.ref a1), .val (.ref b2)] [(.int (2 : Int32)), (.int (1 : Int32)), (.ref b2), (.int (0 : Int32)), (.ref a1)]))
  obtain ⟨T17, h17, L17, X17, e17, N17, K17, V17, st17⟩ := cpA X10 hx hZ hown (hw _ (List.mem_of_getElem? (i := 6) rfl)) (hw _ (List.mem_of_getElem? (i := 9) rfl)) (hw _ (List.mem_of_getElem? (i := 7) rfl)) (hw _ (List.mem_of_getElem? (i := 8) rfl)) e10 V_a1_12 Vb2_11 (us := [(.int x0), (.int x1)]) (sp := (0 : Int32)) (dp := (1 : Int32)) (nn := (2 : Int32)) (Or.inl ⟨rfl, rfl⟩) (by decide) (by decide) (by decide) (by decide) (by decide) rfl (Nat.le_of_ble_eq_true rfl) Np15 ge4 (g := (mkF m 18 #[.val (.ref a1), .val (.ref b2)] [(.int (2 : Int32)), (.int (1 : Int32)), (.ref b2), (.int (0 : Int32)), (.ref a1)])) rfl (by rw [hml]; rfl) rfl (hb hby d1_18) (by decide) (W := 0) (by show 2 * 0 + _ ≤ _; exact Nat.le_of_eq rfl) (by decide)
  have V_a1_18 := V_a1_12.keep K17 (ninS ne3 nin0)
  have Zp19 := Nat.le_trans Zp13 K17.1
  have Kp20 := Kp14.trans K17 (allS (Or.inr sz5) all0)
  have Vb2_21 : Arv Z h17 b2 k2 .byte (5 : Int32) [(.int (11 : Int32)), (.int x0), (.int x1), (.int (0 : Int32)), (.int (0 : Int32))] (.int (0 : Int32)) := V17
  refine Go.on st17 ?_
  show Go p.tables e below s _ _ _ (T17.setTop (mkF m 21 #[.val (.ref a1), .val (.ref b2)] []))
  refine Go.on (fun t k => XS.aloadN X17.here hx rfl (hb hby d1_21) rfl rfl k) ?_
  show Go p.tables e below s _ _ _ (T17.setTop (mkF m 22 #[.val (.ref a1), .val (.ref b2)] [(.ref b2)]))
  refine Go.on (fun t k => XS.aloadN X17.here hx rfl (hb hby d1_22) rfl rfl k) ?_
  show Go p.tables e below s _ _ _ (T17.setTop (mkF m 23 #[.val (.ref a1), .val (.ref b2)] [(.ref b2), (.ref b2)]))
  obtain ⟨cl22, Ar22, q22, S22, M22, H22, G22⟩ := id Vb2_21
  refine Go.on (fun t k => X17.arraylength hx (by rw [e17]; exact Ar22.1) (State.isArrayOf_alike hZ.alike Ar22.2.1) (g := (mkF m 23 #[.val (.ref a1), .val (.ref b2)] [(.ref b2), (.ref b2)])) rfl rfl (hb hby d1_23) t k) ?_
  rw [len_of S22 M22]
  show Go p.tables e below s _ _ _ (T17.setTop (mkF m 24 #[.val (.ref a1), .val (.ref b2)] [(.int (5 : Int32)), (.ref b2)]))
  refine Go.on (fun t k => XS.iconst X17.here hx rfl (hb hby d1_24) k) ?_
  show Go p.tables e below s _ _ _ (T17.setTop (mkF m 25 #[.val (.ref a1), .val (.ref b2)] [(.int (2 : Int32)), (.int (5 : Int32)), (.ref b2)]))
  refine Go.on (fun t k => XS.isub X17.here hx rfl (hb hby d1_25) rfl k) ?_
  show Go p.tables e below s _ _ _ (T17.setTop (mkF m 26 #[.val (.ref a1), .val (.ref b2)] [(.int (3 : Int32)), (.ref b2)]))
  refine Go.on (fun t k => XS.bipush X17.here hx rfl (hb hby d1_26) k) ?_
  show Go p.tables e below s _ _ _ (T17.setTop (mkF m 28 #[.val (.ref a1), .val (.ref b2)] [(.int (28 : Int32)), (.int (3 : Int32)), (.ref b2)]))
  obtain ⟨cl23, Ar23, q23, S23, M23, H23, G23⟩ := id Vb2_21
  have hin23 : ¬ ((3 : Int32) < 0 ∨ cl23.slots.size ≤ ((3 : Int32)).toNatClampNeg) := inb_of S23 ⟨by decide, by decide⟩
  obtain ⟨T23, h23, X23, e23, W23, st23⟩ := stB X17 hx hZ e17 Ar23 (j := (3 : Int32)) hin23 (g := (mkF m 28 #[.val (.ref a1), .val (.ref b2)] [(.int (28 : Int32)), (.int (3 : Int32)), (.ref b2)])) rfl rfl (hb hby d1_28)
  have Vb2_24 : Arv Z h23 b2 k2 .byte (5 : Int32) [(.int (11 : Int32)), (.int x0), (.int x1), (.int (28 : Int32)), (.int (0 : Int32))] (.int (0 : Int32)) := Arv.set Ar23 q23 S23 M23 H23 G23 (fits_nar_byte _) W23 3 rfl (Nat.le_of_ble_eq_true rfl)
  have V_a1_25 := V_a1_18.other W23 ne3
  have Zp26 := Nat.le_trans Zp19 (Keep.of_wr W23).1
  have Kp27 := Kp20.wr W23 (Or.inr sz5)
  have Np28 := Fr.snoc X23 N17 ge4
  refine Go.on st23 ?_
  show Go p.tables e below s _ _ _ (T23.setTop (mkF m 29 #[.val (.ref a1), .val (.ref b2)] []))
  refine Go.on (fun t k => XS.aloadN X23.here hx rfl (hb hby d1_29) rfl rfl k) ?_
  show Go p.tables e below s _ _ _ (T23.setTop (mkF m 30 #[.val (.ref a1), .val (.ref b2)] [(.ref b2)]))
  refine Go.on (fun t k => XS.aloadN X23.here hx rfl (hb hby d1_30) rfl rfl k) ?_
  show Go p.tables e below s _ _ _ (T23.setTop (mkF m 31 #[.val (.ref a1), .val (.ref b2)] [(.ref b2), (.ref b2)]))
  obtain ⟨cl29, Ar29, q29, S29, M29, H29, G29⟩ := id Vb2_24
  refine Go.on (fun t k => X23.arraylength hx (by rw [e23]; exact Ar29.1) (State.isArrayOf_alike hZ.alike Ar29.2.1) (g := (mkF m 31 #[.val (.ref a1), .val (.ref b2)] [(.ref b2), (.ref b2)])) rfl rfl (hb hby d1_31) t k) ?_
  rw [len_of S29 M29]
  show Go p.tables e below s _ _ _ (T23.setTop (mkF m 32 #[.val (.ref a1), .val (.ref b2)] [(.int (5 : Int32)), (.ref b2)]))
  refine Go.on (fun t k => XS.iconst X23.here hx rfl (hb hby d1_32) k) ?_
  show Go p.tables e below s _ _ _ (T23.setTop (mkF m 33 #[.val (.ref a1), .val (.ref b2)] [(.int (1 : Int32)), (.int (5 : Int32)), (.ref b2)]))
  refine Go.on (fun t k => XS.isub X23.here hx rfl (hb hby d1_33) rfl k) ?_
  show Go p.tables e below s _ _ _ (T23.setTop (mkF m 34 #[.val (.ref a1), .val (.ref b2)] [(.int (4 : Int32)), (.ref b2)]))
  refine Go.on (fun t k => XS.bipush X23.here hx rfl (hb hby d1_34) k) ?_
  show Go p.tables e below s _ _ _ (T23.setTop (mkF m 36 #[.val (.ref a1), .val (.ref b2)] [(.int (13 : Int32)), (.int (4 : Int32)), (.ref b2)]))
  obtain ⟨cl30, Ar30, q30, S30, M30, H30, G30⟩ := id Vb2_24
  have hin30 : ¬ ((4 : Int32) < 0 ∨ cl30.slots.size ≤ ((4 : Int32)).toNatClampNeg) := inb_of S30 ⟨by decide, by decide⟩
  obtain ⟨T30, h30, X30, e30, W30, st30⟩ := stB X23 hx hZ e23 Ar30 (j := (4 : Int32)) hin30 (g := (mkF m 36 #[.val (.ref a1), .val (.ref b2)] [(.int (13 : Int32)), (.int (4 : Int32)), (.ref b2)])) rfl rfl (hb hby d1_36)
  have Vb2_31 : Arv Z h30 b2 k2 .byte (5 : Int32) [(.int (11 : Int32)), (.int x0), (.int x1), (.int (28 : Int32)), (.int (13 : Int32))] (.int (0 : Int32)) := Arv.set Ar30 q30 S30 M30 H30 G30 (fits_nar_byte _) W30 4 rfl (Nat.le_of_ble_eq_true rfl)
  have V_a1_32 := V_a1_25.other W30 ne3
  have Zp33 := Nat.le_trans Zp26 (Keep.of_wr W30).1
  have Kp34 := Kp27.wr W30 (Or.inr sz5)
  have Np35 := Fr.snoc X30 Np28 ge4
  refine Go.on st30 ?_
  show Go p.tables e below s _ _ _ (T30.setTop (mkF m 37 #[.val (.ref a1), .val (.ref b2)] []))
  refine Go.on (fun t k => XS.aloadN X30.here hx rfl (hb hby d1_37) rfl rfl k) ?_
  show Go p.tables e below s _ _ _ (T30.setTop (mkF m 38 #[.val (.ref a1), .val (.ref b2)] [(.ref b2)]))
  refine Go.retA X30 hx hlk (w := (.ref b2)) rfl Bd.returns rfl (hb hby d1_38) (by decide) (by decide) e30 ?_
  exact ⟨b2, k2, rfl, Np35, Kp34, ge4, sz5, Vb2_31⟩
theorem ef_1_3 (m : MethodId) (x0 : Addr) : entryFrame m #[(.ref x0)] 2 = mkF m 0 #[.val (.ref x0), .unset] [] := by first | (simp [entryFrame, mkF, argsToLocals, Value.category]; done) | rfl
def Q1_3 (Z : State) (a1 : Addr) (k : ClassId) (x0 : Int32) (x1 : Int32) (x2 : Int32) (h0 : Heap) (n0 : Nat) (v : Option Value) (h : Heap) (L : List Loc) : Prop := ∃ (b : Addr), ∃ (kb : ClassId), v = some (.ref b) ∧ Fr n0 L ∧ Keep h0 h [] ∧ n0 ≤ b ∧ h0.size ≤ b ∧ Arv Z h b kb .byte (6 : Int32) [(.int (11 : Int32)), (.int x0), (.int x1), (.int x2), (.int (28 : Int32)), (.int (13 : Int32))] (.int (0 : Int32))
set_option maxRecDepth 65536 in
set_option maxHeartbeats 40000000 in
theorem rm1_3 (l : Launch) (Z : State) (a0 : Array Value) (hw : ∀ d ∈ tables_1, d.before a0 Z = true) (ws : List Jvm.Cond) (a1 : Addr) (k : ClassId) (x0 : Int32) (x1 : Int32) (x2 : Int32) (h0 : Heap) (n0 : Nat) (Z0 : n0 ≤ h0.size) (V_a1 : Arv Z h0 a1 k .byte (3 : Int32) [(.int x0), (.int x1), (.int x2)] (.int (0 : Int32))) :
    MetFree l (⟨"com/example/rhythmwire/rhythmwire/hl7/Mllp", "frame", "([B)[B"⟩ : MethodName) (head1 (Jvm.Cond.code (⟨"com/example/rhythmwire/rhythmwire/hl7/Mllp", "frame", "([B)[B"⟩ : MethodName) prog_23_method_2_code 2 (some (.array .byte)) :: ws) ({ frames := 1, cells := 1, slots := 6, locals := 18 } : Room)) (fun a U => a = #[(.ref a1)] ∧ Z.Warmed39 U.vm ∧ U.heap = h0) (fun _ _ _ _ _ => True) (fun _ U o U' => ∃ v L, o = .returned v ∧ Q1_3 Z a1 k x0 x1 x2 h0 n0 v U'.heap L ∧ FrameEnd U o U' L ({ frames := 1, cells := 1, slots := 6, locals := 18 } : Room).cells ({ frames := 1, cells := 1, slots := 6, locals := 18 } : Room).slots) := by
  refine MetFree.of_bodySF (plainFor_of_name pn_com_example_rhythmwire_rhythmwire_hl7_Mllp) hisR ?_
  intro p e s m args below meth c s₁ Bd hml0 hP hK
  obtain ⟨rfl, hZ, hh⟩ := hP
  have hx := Bd.exec
  have hby := Bd.bytes
  have hlk : meth.locks = false := BodyLoose.notSynchronized Bd
  have hml : c.maxLocals = 2 := hml0
  have hown : s.vm.findClass "com/example/rhythmwire/rhythmwire/hl7/Mllp" = some m.cls := findClass_of_methodNamed Bd.named
  have hnm := (name_of_methodNamed Bd.named Bd.method).1
  have X0 : Stand p l e ({ frames := 1, cells := 1, slots := 6, locals := 18 } : Room) s m #[(.ref a1)] below meth c s₁ [] 0 0 := Stand.of_body Bd
  have e0 : s₁.heap = h0 := by rw [← hh, Bd.state]; rfl
  have N0 := Fr.nil n0
  show Go p.tables e below s (Q1_3 Z a1 k x0 x1 x2 h0 n0) ({ frames := 1, cells := 1, slots := 6, locals := 18 } : Room).cells ({ frames := 1, cells := 1, slots := 6, locals := 18 } : Room).slots (s₁.setTop (entryFrame m #[(.ref a1)] 2))
  refine Go.on (fun t k => castTop (ef_1_3 m a1) k) ?_
  show Go p.tables e below s _ _ _ (s₁.setTop (mkF m 0 #[.val (.ref a1), .unset] []))
  refine Go.on (fun t k => XS.aloadN X0.here hx rfl (hb hby d1_0) rfl rfl k) ?_
  show Go p.tables e below s _ _ _ (s₁.setTop (mkF m 1 #[.val (.ref a1), .unset] [(.ref a1)]))
  obtain ⟨cl1, Ar1, q1, S1, M1, H1, G1⟩ := id V_a1
  refine Go.on (fun t k => X0.arraylength hx (by rw [e0]; exact Ar1.1) (State.isArrayOf_alike hZ.alike Ar1.2.1) (g := (mkF m 1 #[.val (.ref a1), .unset] [(.ref a1)])) rfl rfl (hb hby d1_1) t k) ?_
  rw [len_of S1 M1]
  show Go p.tables e below s _ _ _ (s₁.setTop (mkF m 2 #[.val (.ref a1), .unset] [(.int (3 : Int32))]))
  refine Go.on (fun t k => XS.iconst X0.here hx rfl (hb hby d1_2) k) ?_
  show Go p.tables e below s _ _ _ (s₁.setTop (mkF m 3 #[.val (.ref a1), .unset] [(.int (3 : Int32)), (.int (3 : Int32))]))
  refine Go.on (fun t k => XS.iadd X0.here hx rfl (hb hby d1_3) rfl k) ?_
  show Go p.tables e below s _ _ _ (s₁.setTop (mkF m 4 #[.val (.ref a1), .unset] [(.int (6 : Int32))]))
  obtain ⟨T2, h2, k2, X2, e2, E2, A2, st2⟩ := newP X0 hx hZ (hw _ (List.mem_of_getElem? (i := 1) rfl)) e0 (g := (mkF m 4 #[.val (.ref a1), .unset] [(.int (6 : Int32))])) rfl (hb hby d1_4) rfl (by decide) (cap := 6) (by decide) (by decide) (by decide) (by decide)
  obtain ⟨b2, g2⟩ : ∃ z, z = h0.size := ⟨_, rfl⟩
  rw [← g2] at A2 st2
  have ne3 : a1 ≠ b2 := Nat.ne_of_lt (Nat.lt_of_lt_of_eq V_a1.lt g2.symm)
  have ge4 : n0 ≤ b2 := Nat.le_trans Z0 (Nat.le_of_eq g2.symm)
  have sz5 : h0.size ≤ b2 := Nat.le_trans (Keep.refl h0 []).1 (Nat.le_of_eq g2.symm)
  have V_a1_6 := V_a1.ext E2
  have Zp7 := Nat.le_trans Z0 E2.1
  have Kp8 := (Keep.refl h0 []).ext E2
  have Vb2_9 : Arv Z h2 b2 k2 .byte (6 : Int32) [(.int (0 : Int32)), (.int (0 : Int32)), (.int (0 : Int32)), (.int (0 : Int32)), (.int (0 : Int32)), (.int (0 : Int32))] (.int (0 : Int32)) := (Arv.new A2 (by decide)).pad (pad_rep [] (.int (0 : Int32)) 6)
  refine Go.on st2 ?_
  show Go p.tables e below s _ _ _ (T2.setTop (mkF m 6 #[.val (.ref a1), .unset] [(.ref b2)]))
  refine Go.on (fun t k => XS.astoreN X2.here hx rfl (hb hby d1_6) rfl rfl (l' := #[.val (.ref a1), .val (.ref b2)]) rfl k) ?_
  show Go p.tables e below s _ _ _ (T2.setTop (mkF m 7 #[.val (.ref a1), .val (.ref b2)] []))
  refine Go.on (fun t k => XS.aloadN X2.here hx rfl (hb hby d1_7) rfl rfl k) ?_
  show Go p.tables e below s _ _ _ (T2.setTop (mkF m 8 #[.val (.ref a1), .val (.ref b2)] [(.ref b2)]))
  refine Go.on (fun t k => XS.iconst X2.here hx rfl (hb hby d1_8) k) ?_
  show Go p.tables e below s _ _ _ (T2.setTop (mkF m 9 #[.val (.ref a1), .val (.ref b2)] [(.int (0 : Int32)), (.ref b2)]))
  refine Go.on (fun t k => XS.bipush X2.here hx rfl (hb hby d1_9) k) ?_
  show Go p.tables e below s _ _ _ (T2.setTop (mkF m 11 #[.val (.ref a1), .val (.ref b2)] [(.int (11 : Int32)), (.int (0 : Int32)), (.ref b2)]))
  obtain ⟨cl10, Ar10, q10, S10, M10, H10, G10⟩ := id Vb2_9
  have hin10 : ¬ ((0 : Int32) < 0 ∨ cl10.slots.size ≤ ((0 : Int32)).toNatClampNeg) := inb_of S10 ⟨by decide, by decide⟩
  obtain ⟨T10, h10, X10, e10, W10, st10⟩ := stB X2 hx hZ e2 Ar10 (j := (0 : Int32)) hin10 (g := (mkF m 11 #[.val (.ref a1), .val (.ref b2)] [(.int (11 : Int32)), (.int (0 : Int32)), (.ref b2)])) rfl rfl (hb hby d1_11)
  have Vb2_11 : Arv Z h10 b2 k2 .byte (6 : Int32) [(.int (11 : Int32)), (.int (0 : Int32)), (.int (0 : Int32)), (.int (0 : Int32)), (.int (0 : Int32)), (.int (0 : Int32))] (.int (0 : Int32)) := Arv.set Ar10 q10 S10 M10 H10 G10 (fits_nar_byte _) W10 0 rfl (Nat.le_of_ble_eq_true rfl)
  have V_a1_12 := V_a1_6.other W10 ne3
  have Zp13 := Nat.le_trans Zp7 (Keep.of_wr W10).1
  have Kp14 := Kp8.wr W10 (Or.inr sz5)
  have Np15 := Fr.snoc X10 N0 ge4
  refine Go.on st10 ?_
  show Go p.tables e below s _ _ _ (T10.setTop (mkF m 12 #[.val (.ref a1), .val (.ref b2)] []))
  refine Go.on (fun t k => XS.aloadN X10.here hx rfl (hb hby d1_12) rfl rfl k) ?_
  show Go p.tables e below s _ _ _ (T10.setTop (mkF m 13 #[.val (.ref a1), .val (.ref b2)] [(.ref a1)]))
  refine Go.on (fun t k => XS.iconst X10.here hx rfl (hb hby d1_13) k) ?_
  show Go p.tables e below s _ _ _ (T10.setTop (mkF m 14 #[.val (.ref a1), .val (.ref b2)] [(.int (0 : Int32)), (.ref a1)]))
  refine Go.on (fun t k => XS.aloadN X10.here hx rfl (hb hby d1_14) rfl rfl k) ?_
  show Go p.tables e below s _ _ _ (T10.setTop (mkF m 15 #[.val (.ref a1), .val (.ref b2)] [(.ref b2), (.int (0 : Int32)), (.ref a1)]))
  refine Go.on (fun t k => XS.iconst X10.here hx rfl (hb hby d1_15) k) ?_
  show Go p.tables e below s _ _ _ (T10.setTop (mkF m 16 #[.val (.ref a1), .val (.ref b2)] [(.int (1 : Int32)), (.ref b2), (.int (0 : Int32)), (.ref a1)]))
  refine Go.on (fun t k => XS.aloadN X10.here hx rfl (hb hby d1_16) rfl rfl k) ?_
  show Go p.tables e below s _ _ _ (T10.setTop (mkF m 17 #[.val (.ref a1), .val (.ref b2)] [(.ref a1), (.int (1 : Int32)), (.ref b2), (.int (0 : Int32)), (.ref a1)]))
  obtain ⟨cl16, Ar16, q16, S16, M16, H16, G16⟩ := id V_a1_12
  refine Go.on (fun t k => X10.arraylength hx (by rw [e10]; exact Ar16.1) (State.isArrayOf_alike hZ.alike Ar16.2.1) (g := (mkF m 17 #[.val (.ref a1), .val (.ref b2)] [(.ref a1), (.int (1 : Int32)), (.ref b2), (.int (0 : Int32)), (.ref a1)])) rfl rfl (hb hby d1_17) t k) ?_
  rw [len_of S16 M16]
  show Go p.tables e below s _ _ _ (T10.setTop (mkF m 18 #[.val (.ref a1), .val (.ref b2)] [(.int (3 : Int32)), (.int (1 : Int32)), (.ref b2), (.int (0 : Int32)), (.ref a1)]))
  obtain ⟨T17, h17, L17, X17, e17, N17, K17, V17, st17⟩ := cpA X10 hx hZ hown (hw _ (List.mem_of_getElem? (i := 6) rfl)) (hw _ (List.mem_of_getElem? (i := 9) rfl)) (hw _ (List.mem_of_getElem? (i := 7) rfl)) (hw _ (List.mem_of_getElem? (i := 8) rfl)) e10 V_a1_12 Vb2_11 (us := [(.int x0), (.int x1), (.int x2)]) (sp := (0 : Int32)) (dp := (1 : Int32)) (nn := (3 : Int32)) (Or.inl ⟨rfl, rfl⟩) (by decide) (by decide) (by decide) (by decide) (by decide) rfl (Nat.le_of_ble_eq_true rfl) Np15 ge4 (g := (mkF m 18 #[.val (.ref a1), .val (.ref b2)] [(.int (3 : Int32)), (.int (1 : Int32)), (.ref b2), (.int (0 : Int32)), (.ref a1)])) rfl (by rw [hml]; rfl) rfl (hb hby d1_18) (by decide) (W := 0) (by show 2 * 0 + _ ≤ _; exact Nat.le_of_eq rfl) (by decide)
  have V_a1_18 := V_a1_12.keep K17 (ninS ne3 nin0)
  have Zp19 := Nat.le_trans Zp13 K17.1
  have Kp20 := Kp14.trans K17 (allS (Or.inr sz5) all0)
  have Vb2_21 : Arv Z h17 b2 k2 .byte (6 : Int32) [(.int (11 : Int32)), (.int x0), (.int x1), (.int x2), (.int (0 : Int32)), (.int (0 : Int32))] (.int (0 : Int32)) := V17
  refine Go.on st17 ?_
  show Go p.tables e below s _ _ _ (T17.setTop (mkF m 21 #[.val (.ref a1), .val (.ref b2)] []))
  refine Go.on (fun t k => XS.aloadN X17.here hx rfl (hb hby d1_21) rfl rfl k) ?_
  show Go p.tables e below s _ _ _ (T17.setTop (mkF m 22 #[.val (.ref a1), .val (.ref b2)] [(.ref b2)]))
  refine Go.on (fun t k => XS.aloadN X17.here hx rfl (hb hby d1_22) rfl rfl k) ?_
  show Go p.tables e below s _ _ _ (T17.setTop (mkF m 23 #[.val (.ref a1), .val (.ref b2)] [(.ref b2), (.ref b2)]))
  obtain ⟨cl22, Ar22, q22, S22, M22, H22, G22⟩ := id Vb2_21
  refine Go.on (fun t k => X17.arraylength hx (by rw [e17]; exact Ar22.1) (State.isArrayOf_alike hZ.alike Ar22.2.1) (g := (mkF m 23 #[.val (.ref a1), .val (.ref b2)] [(.ref b2), (.ref b2)])) rfl rfl (hb hby d1_23) t k) ?_
  rw [len_of S22 M22]
  show Go p.tables e below s _ _ _ (T17.setTop (mkF m 24 #[.val (.ref a1), .val (.ref b2)] [(.int (6 : Int32)), (.ref b2)]))
  refine Go.on (fun t k => XS.iconst X17.here hx rfl (hb hby d1_24) k) ?_
  show Go p.tables e below s _ _ _ (T17.setTop (mkF m 25 #[.val (.ref a1), .val (.ref b2)] [(.int (2 : Int32)), (.int (6 : Int32)), (.ref b2)]))
  refine Go.on (fun t k => XS.isub X17.here hx rfl (hb hby d1_25) rfl k) ?_
  show Go p.tables e below s _ _ _ (T17.setTop (mkF m 26 #[.val (.ref a1), .val (.ref b2)] [(.int (4 : Int32)), (.ref b2)]))
  refine Go.on (fun t k => XS.bipush X17.here hx rfl (hb hby d1_26) k) ?_
  show Go p.tables e below s _ _ _ (T17.setTop (mkF m 28 #[.val (.ref a1), .val (.ref b2)] [(.int (28 : Int32)), (.int (4 : Int32)), (.ref b2)]))
  obtain ⟨cl23, Ar23, q23, S23, M23, H23, G23⟩ := id Vb2_21
  have hin23 : ¬ ((4 : Int32) < 0 ∨ cl23.slots.size ≤ ((4 : Int32)).toNatClampNeg) := inb_of S23 ⟨by decide, by decide⟩
  obtain ⟨T23, h23, X23, e23, W23, st23⟩ := stB X17 hx hZ e17 Ar23 (j := (4 : Int32)) hin23 (g := (mkF m 28 #[.val (.ref a1), .val (.ref b2)] [(.int (28 : Int32)), (.int (4 : Int32)), (.ref b2)])) rfl rfl (hb hby d1_28)
  have Vb2_24 : Arv Z h23 b2 k2 .byte (6 : Int32) [(.int (11 : Int32)), (.int x0), (.int x1), (.int x2), (.int (28 : Int32)), (.int (0 : Int32))] (.int (0 : Int32)) := Arv.set Ar23 q23 S23 M23 H23 G23 (fits_nar_byte _) W23 4 rfl (Nat.le_of_ble_eq_true rfl)
  have V_a1_25 := V_a1_18.other W23 ne3
  have Zp26 := Nat.le_trans Zp19 (Keep.of_wr W23).1
  have Kp27 := Kp20.wr W23 (Or.inr sz5)
  have Np28 := Fr.snoc X23 N17 ge4
  refine Go.on st23 ?_
  show Go p.tables e below s _ _ _ (T23.setTop (mkF m 29 #[.val (.ref a1), .val (.ref b2)] []))
  refine Go.on (fun t k => XS.aloadN X23.here hx rfl (hb hby d1_29) rfl rfl k) ?_
  show Go p.tables e below s _ _ _ (T23.setTop (mkF m 30 #[.val (.ref a1), .val (.ref b2)] [(.ref b2)]))
  refine Go.on (fun t k => XS.aloadN X23.here hx rfl (hb hby d1_30) rfl rfl k) ?_
  show Go p.tables e below s _ _ _ (T23.setTop (mkF m 31 #[.val (.ref a1), .val (.ref b2)] [(.ref b2), (.ref b2)]))
  obtain ⟨cl29, Ar29, q29, S29, M29, H29, G29⟩ := id Vb2_24
  refine Go.on (fun t k => X23.arraylength hx (by rw [e23]; exact Ar29.1) (State.isArrayOf_alike hZ.alike Ar29.2.1) (g := (mkF m 31 #[.val (.ref a1), .val (.ref b2)] [(.ref b2), (.ref b2)])) rfl rfl (hb hby d1_31) t k) ?_
  rw [len_of S29 M29]
  show Go p.tables e below s _ _ _ (T23.setTop (mkF m 32 #[.val (.ref a1), .val (.ref b2)] [(.int (6 : Int32)), (.ref b2)]))
  refine Go.on (fun t k => XS.iconst X23.here hx rfl (hb hby d1_32) k) ?_
  show Go p.tables e below s _ _ _ (T23.setTop (mkF m 33 #[.val (.ref a1), .val (.ref b2)] [(.int (1 : Int32)), (.int (6 : Int32)), (.ref b2)]))
  refine Go.on (fun t k => XS.isub X23.here hx rfl (hb hby d1_33) rfl k) ?_
  show Go p.tables e below s _ _ _ (T23.setTop (mkF m 34 #[.val (.ref a1), .val (.ref b2)] [(.int (5 : Int32)), (.ref b2)]))
  refine Go.on (fun t k => XS.bipush X23.here hx rfl (hb hby d1_34) k) ?_
  show Go p.tables e below s _ _ _ (T23.setTop (mkF m 36 #[.val (.ref a1), .val (.ref b2)] [(.int (13 : Int32)), (.int (5 : Int32)), (.ref b2)]))
  obtain ⟨cl30, Ar30, q30, S30, M30, H30, G30⟩ := id Vb2_24
  have hin30 : ¬ ((5 : Int32) < 0 ∨ cl30.slots.size ≤ ((5 : Int32)).toNatClampNeg) := inb_of S30 ⟨by decide, by decide⟩
  obtain ⟨T30, h30, X30, e30, W30, st30⟩ := stB X23 hx hZ e23 Ar30 (j := (5 : Int32)) hin30 (g := (mkF m 36 #[.val (.ref a1), .val (.ref b2)] [(.int (13 : Int32)), (.int (5 : Int32)), (.ref b2)])) rfl rfl (hb hby d1_36)
  have Vb2_31 : Arv Z h30 b2 k2 .byte (6 : Int32) [(.int (11 : Int32)), (.int x0), (.int x1), (.int x2), (.int (28 : Int32)), (.int (13 : Int32))] (.int (0 : Int32)) := Arv.set Ar30 q30 S30 M30 H30 G30 (fits_nar_byte _) W30 5 rfl (Nat.le_of_ble_eq_true rfl)
  have V_a1_32 := V_a1_25.other W30 ne3
  have Zp33 := Nat.le_trans Zp26 (Keep.of_wr W30).1
  have Kp34 := Kp27.wr W30 (Or.inr sz5)
  have Np35 := Fr.snoc X30 Np28 ge4
  refine Go.on st30 ?_
  show Go p.tables e below s _ _ _ (T30.setTop (mkF m 37 #[.val (.ref a1), .val (.ref b2)] []))
  refine Go.on (fun t k => XS.aloadN X30.here hx rfl (hb hby d1_37) rfl rfl k) ?_
  show Go p.tables e below s _ _ _ (T30.setTop (mkF m 38 #[.val (.ref a1), .val (.ref b2)] [(.ref b2)]))
  refine Go.retA X30 hx hlk (w := (.ref b2)) rfl Bd.returns rfl (hb hby d1_38) (by decide) (by decide) e30 ?_
  exact ⟨b2, k2, rfl, Np35, Kp34, ge4, sz5, Vb2_31⟩
theorem ef_1_4 (m : MethodId) (x0 : Addr) : entryFrame m #[(.ref x0)] 2 = mkF m 0 #[.val (.ref x0), .unset] [] := by first | (simp [entryFrame, mkF, argsToLocals, Value.category]; done) | rfl
def Q1_4 (Z : State) (a1 : Addr) (k : ClassId) (x0 : Int32) (x1 : Int32) (x2 : Int32) (x3 : Int32) (h0 : Heap) (n0 : Nat) (v : Option Value) (h : Heap) (L : List Loc) : Prop := ∃ (b : Addr), ∃ (kb : ClassId), v = some (.ref b) ∧ Fr n0 L ∧ Keep h0 h [] ∧ n0 ≤ b ∧ h0.size ≤ b ∧ Arv Z h b kb .byte (7 : Int32) [(.int (11 : Int32)), (.int x0), (.int x1), (.int x2), (.int x3), (.int (28 : Int32)), (.int (13 : Int32))] (.int (0 : Int32))
set_option maxRecDepth 65536 in
set_option maxHeartbeats 40000000 in
theorem rm1_4 (l : Launch) (Z : State) (a0 : Array Value) (hw : ∀ d ∈ tables_1, d.before a0 Z = true) (ws : List Jvm.Cond) (a1 : Addr) (k : ClassId) (x0 : Int32) (x1 : Int32) (x2 : Int32) (x3 : Int32) (h0 : Heap) (n0 : Nat) (Z0 : n0 ≤ h0.size) (V_a1 : Arv Z h0 a1 k .byte (4 : Int32) [(.int x0), (.int x1), (.int x2), (.int x3)] (.int (0 : Int32))) :
    MetFree l (⟨"com/example/rhythmwire/rhythmwire/hl7/Mllp", "frame", "([B)[B"⟩ : MethodName) (head1 (Jvm.Cond.code (⟨"com/example/rhythmwire/rhythmwire/hl7/Mllp", "frame", "([B)[B"⟩ : MethodName) prog_23_method_2_code 2 (some (.array .byte)) :: ws) ({ frames := 1, cells := 1, slots := 7, locals := 18 } : Room)) (fun a U => a = #[(.ref a1)] ∧ Z.Warmed39 U.vm ∧ U.heap = h0) (fun _ _ _ _ _ => True) (fun _ U o U' => ∃ v L, o = .returned v ∧ Q1_4 Z a1 k x0 x1 x2 x3 h0 n0 v U'.heap L ∧ FrameEnd U o U' L ({ frames := 1, cells := 1, slots := 7, locals := 18 } : Room).cells ({ frames := 1, cells := 1, slots := 7, locals := 18 } : Room).slots) := by
  refine MetFree.of_bodySF (plainFor_of_name pn_com_example_rhythmwire_rhythmwire_hl7_Mllp) hisR ?_
  intro p e s m args below meth c s₁ Bd hml0 hP hK
  obtain ⟨rfl, hZ, hh⟩ := hP
  have hx := Bd.exec
  have hby := Bd.bytes
  have hlk : meth.locks = false := BodyLoose.notSynchronized Bd
  have hml : c.maxLocals = 2 := hml0
  have hown : s.vm.findClass "com/example/rhythmwire/rhythmwire/hl7/Mllp" = some m.cls := findClass_of_methodNamed Bd.named
  have hnm := (name_of_methodNamed Bd.named Bd.method).1
  have X0 : Stand p l e ({ frames := 1, cells := 1, slots := 7, locals := 18 } : Room) s m #[(.ref a1)] below meth c s₁ [] 0 0 := Stand.of_body Bd
  have e0 : s₁.heap = h0 := by rw [← hh, Bd.state]; rfl
  have N0 := Fr.nil n0
  show Go p.tables e below s (Q1_4 Z a1 k x0 x1 x2 x3 h0 n0) ({ frames := 1, cells := 1, slots := 7, locals := 18 } : Room).cells ({ frames := 1, cells := 1, slots := 7, locals := 18 } : Room).slots (s₁.setTop (entryFrame m #[(.ref a1)] 2))
  refine Go.on (fun t k => castTop (ef_1_4 m a1) k) ?_
  show Go p.tables e below s _ _ _ (s₁.setTop (mkF m 0 #[.val (.ref a1), .unset] []))
  refine Go.on (fun t k => XS.aloadN X0.here hx rfl (hb hby d1_0) rfl rfl k) ?_
  show Go p.tables e below s _ _ _ (s₁.setTop (mkF m 1 #[.val (.ref a1), .unset] [(.ref a1)]))
  obtain ⟨cl1, Ar1, q1, S1, M1, H1, G1⟩ := id V_a1
  refine Go.on (fun t k => X0.arraylength hx (by rw [e0]; exact Ar1.1) (State.isArrayOf_alike hZ.alike Ar1.2.1) (g := (mkF m 1 #[.val (.ref a1), .unset] [(.ref a1)])) rfl rfl (hb hby d1_1) t k) ?_
  rw [len_of S1 M1]
  show Go p.tables e below s _ _ _ (s₁.setTop (mkF m 2 #[.val (.ref a1), .unset] [(.int (4 : Int32))]))
  refine Go.on (fun t k => XS.iconst X0.here hx rfl (hb hby d1_2) k) ?_
  show Go p.tables e below s _ _ _ (s₁.setTop (mkF m 3 #[.val (.ref a1), .unset] [(.int (3 : Int32)), (.int (4 : Int32))]))
  refine Go.on (fun t k => XS.iadd X0.here hx rfl (hb hby d1_3) rfl k) ?_
  show Go p.tables e below s _ _ _ (s₁.setTop (mkF m 4 #[.val (.ref a1), .unset] [(.int (7 : Int32))]))
  obtain ⟨T2, h2, k2, X2, e2, E2, A2, st2⟩ := newP X0 hx hZ (hw _ (List.mem_of_getElem? (i := 1) rfl)) e0 (g := (mkF m 4 #[.val (.ref a1), .unset] [(.int (7 : Int32))])) rfl (hb hby d1_4) rfl (by decide) (cap := 7) (by decide) (by decide) (by decide) (by decide)
  obtain ⟨b2, g2⟩ : ∃ z, z = h0.size := ⟨_, rfl⟩
  rw [← g2] at A2 st2
  have ne3 : a1 ≠ b2 := Nat.ne_of_lt (Nat.lt_of_lt_of_eq V_a1.lt g2.symm)
  have ge4 : n0 ≤ b2 := Nat.le_trans Z0 (Nat.le_of_eq g2.symm)
  have sz5 : h0.size ≤ b2 := Nat.le_trans (Keep.refl h0 []).1 (Nat.le_of_eq g2.symm)
  have V_a1_6 := V_a1.ext E2
  have Zp7 := Nat.le_trans Z0 E2.1
  have Kp8 := (Keep.refl h0 []).ext E2
  have Vb2_9 : Arv Z h2 b2 k2 .byte (7 : Int32) [(.int (0 : Int32)), (.int (0 : Int32)), (.int (0 : Int32)), (.int (0 : Int32)), (.int (0 : Int32)), (.int (0 : Int32)), (.int (0 : Int32))] (.int (0 : Int32)) := (Arv.new A2 (by decide)).pad (pad_rep [] (.int (0 : Int32)) 7)
  refine Go.on st2 ?_
  show Go p.tables e below s _ _ _ (T2.setTop (mkF m 6 #[.val (.ref a1), .unset] [(.ref b2)]))
  refine Go.on (fun t k => XS.astoreN X2.here hx rfl (hb hby d1_6) rfl rfl (l' := #[.val (.ref a1), .val (.ref b2)]) rfl k) ?_
  show Go p.tables e below s _ _ _ (T2.setTop (mkF m 7 #[.val (.ref a1), .val (.ref b2)] []))
  refine Go.on (fun t k => XS.aloadN X2.here hx rfl (hb hby d1_7) rfl rfl k) ?_
  show Go p.tables e below s _ _ _ (T2.setTop (mkF m 8 #[.val (.ref a1), .val (.ref b2)] [(.ref b2)]))
  refine Go.on (fun t k => XS.iconst X2.here hx rfl (hb hby d1_8) k) ?_
  show Go p.tables e below s _ _ _ (T2.setTop (mkF m 9 #[.val (.ref a1), .val (.ref b2)] [(.int (0 : Int32)), (.ref b2)]))
  refine Go.on (fun t k => XS.bipush X2.here hx rfl (hb hby d1_9) k) ?_
  show Go p.tables e below s _ _ _ (T2.setTop (mkF m 11 #[.val (.ref a1), .val (.ref b2)] [(.int (11 : Int32)), (.int (0 : Int32)), (.ref b2)]))
  obtain ⟨cl10, Ar10, q10, S10, M10, H10, G10⟩ := id Vb2_9
  have hin10 : ¬ ((0 : Int32) < 0 ∨ cl10.slots.size ≤ ((0 : Int32)).toNatClampNeg) := inb_of S10 ⟨by decide, by decide⟩
  obtain ⟨T10, h10, X10, e10, W10, st10⟩ := stB X2 hx hZ e2 Ar10 (j := (0 : Int32)) hin10 (g := (mkF m 11 #[.val (.ref a1), .val (.ref b2)] [(.int (11 : Int32)), (.int (0 : Int32)), (.ref b2)])) rfl rfl (hb hby d1_11)
  have Vb2_11 : Arv Z h10 b2 k2 .byte (7 : Int32) [(.int (11 : Int32)), (.int (0 : Int32)), (.int (0 : Int32)), (.int (0 : Int32)), (.int (0 : Int32)), (.int (0 : Int32)), (.int (0 : Int32))] (.int (0 : Int32)) := Arv.set Ar10 q10 S10 M10 H10 G10 (fits_nar_byte _) W10 0 rfl (Nat.le_of_ble_eq_true rfl)
  have V_a1_12 := V_a1_6.other W10 ne3
  have Zp13 := Nat.le_trans Zp7 (Keep.of_wr W10).1
  have Kp14 := Kp8.wr W10 (Or.inr sz5)
  have Np15 := Fr.snoc X10 N0 ge4
  refine Go.on st10 ?_
  show Go p.tables e below s _ _ _ (T10.setTop (mkF m 12 #[.val (.ref a1), .val (.ref b2)] []))
  refine Go.on (fun t k => XS.aloadN X10.here hx rfl (hb hby d1_12) rfl rfl k) ?_
  show Go p.tables e below s _ _ _ (T10.setTop (mkF m 13 #[.val (.ref a1), .val (.ref b2)] [(.ref a1)]))
  refine Go.on (fun t k => XS.iconst X10.here hx rfl (hb hby d1_13) k) ?_
  show Go p.tables e below s _ _ _ (T10.setTop (mkF m 14 #[.val (.ref a1), .val (.ref b2)] [(.int (0 : Int32)), (.ref a1)]))
  refine Go.on (fun t k => XS.aloadN X10.here hx rfl (hb hby d1_14) rfl rfl k) ?_
  show Go p.tables e below s _ _ _ (T10.setTop (mkF m 15 #[.val (.ref a1), .val (.ref b2)] [(.ref b2), (.int (0 : Int32)), (.ref a1)]))
  refine Go.on (fun t k => XS.iconst X10.here hx rfl (hb hby d1_15) k) ?_
  show Go p.tables e below s _ _ _ (T10.setTop (mkF m 16 #[.val (.ref a1), .val (.ref b2)] [(.int (1 : Int32)), (.ref b2), (.int (0 : Int32)), (.ref a1)]))
  refine Go.on (fun t k => XS.aloadN X10.here hx rfl (hb hby d1_16) rfl rfl k) ?_
  show Go p.tables e below s _ _ _ (T10.setTop (mkF m 17 #[.val (.ref a1), .val (.ref b2)] [(.ref a1), (.int (1 : Int32)), (.ref b2), (.int (0 : Int32)), (.ref a1)]))
  obtain ⟨cl16, Ar16, q16, S16, M16, H16, G16⟩ := id V_a1_12
  refine Go.on (fun t k => X10.arraylength hx (by rw [e10]; exact Ar16.1) (State.isArrayOf_alike hZ.alike Ar16.2.1) (g := (mkF m 17 #[.val (.ref a1), .val (.ref b2)] [(.ref a1), (.int (1 : Int32)), (.ref b2), (.int (0 : Int32)), (.ref a1)])) rfl rfl (hb hby d1_17) t k) ?_
  rw [len_of S16 M16]
  show Go p.tables e below s _ _ _ (T10.setTop (mkF m 18 #[.val (.ref a1), .val (.ref b2)] [(.int (4 : Int32)), (.int (1 : Int32)), (.ref b2), (.int (0 : Int32)), (.ref a1)]))
  obtain ⟨T17, h17, L17, X17, e17, N17, K17, V17, st17⟩ := cpA X10 hx hZ hown (hw _ (List.mem_of_getElem? (i := 6) rfl)) (hw _ (List.mem_of_getElem? (i := 9) rfl)) (hw _ (List.mem_of_getElem? (i := 7) rfl)) (hw _ (List.mem_of_getElem? (i := 8) rfl)) e10 V_a1_12 Vb2_11 (us := [(.int x0), (.int x1), (.int x2), (.int x3)]) (sp := (0 : Int32)) (dp := (1 : Int32)) (nn := (4 : Int32)) (Or.inl ⟨rfl, rfl⟩) (by decide) (by decide) (by decide) (by decide) (by decide) rfl (Nat.le_of_ble_eq_true rfl) Np15 ge4 (g := (mkF m 18 #[.val (.ref a1), .val (.ref b2)] [(.int (4 : Int32)), (.int (1 : Int32)), (.ref b2), (.int (0 : Int32)), (.ref a1)])) rfl (by rw [hml]; rfl) rfl (hb hby d1_18) (by decide) (W := 0) (by show 2 * 0 + _ ≤ _; exact Nat.le_of_eq rfl) (by decide)
  have V_a1_18 := V_a1_12.keep K17 (ninS ne3 nin0)
  have Zp19 := Nat.le_trans Zp13 K17.1
  have Kp20 := Kp14.trans K17 (allS (Or.inr sz5) all0)
  have Vb2_21 : Arv Z h17 b2 k2 .byte (7 : Int32) [(.int (11 : Int32)), (.int x0), (.int x1), (.int x2), (.int x3), (.int (0 : Int32)), (.int (0 : Int32))] (.int (0 : Int32)) := V17
  refine Go.on st17 ?_
  show Go p.tables e below s _ _ _ (T17.setTop (mkF m 21 #[.val (.ref a1), .val (.ref b2)] []))
  refine Go.on (fun t k => XS.aloadN X17.here hx rfl (hb hby d1_21) rfl rfl k) ?_
  show Go p.tables e below s _ _ _ (T17.setTop (mkF m 22 #[.val (.ref a1), .val (.ref b2)] [(.ref b2)]))
  refine Go.on (fun t k => XS.aloadN X17.here hx rfl (hb hby d1_22) rfl rfl k) ?_
  show Go p.tables e below s _ _ _ (T17.setTop (mkF m 23 #[.val (.ref a1), .val (.ref b2)] [(.ref b2), (.ref b2)]))
  obtain ⟨cl22, Ar22, q22, S22, M22, H22, G22⟩ := id Vb2_21
  refine Go.on (fun t k => X17.arraylength hx (by rw [e17]; exact Ar22.1) (State.isArrayOf_alike hZ.alike Ar22.2.1) (g := (mkF m 23 #[.val (.ref a1), .val (.ref b2)] [(.ref b2), (.ref b2)])) rfl rfl (hb hby d1_23) t k) ?_
  rw [len_of S22 M22]
  show Go p.tables e below s _ _ _ (T17.setTop (mkF m 24 #[.val (.ref a1), .val (.ref b2)] [(.int (7 : Int32)), (.ref b2)]))
  refine Go.on (fun t k => XS.iconst X17.here hx rfl (hb hby d1_24) k) ?_
  show Go p.tables e below s _ _ _ (T17.setTop (mkF m 25 #[.val (.ref a1), .val (.ref b2)] [(.int (2 : Int32)), (.int (7 : Int32)), (.ref b2)]))
  refine Go.on (fun t k => XS.isub X17.here hx rfl (hb hby d1_25) rfl k) ?_
  show Go p.tables e below s _ _ _ (T17.setTop (mkF m 26 #[.val (.ref a1), .val (.ref b2)] [(.int (5 : Int32)), (.ref b2)]))
  refine Go.on (fun t k => XS.bipush X17.here hx rfl (hb hby d1_26) k) ?_
  show Go p.tables e below s _ _ _ (T17.setTop (mkF m 28 #[.val (.ref a1), .val (.ref b2)] [(.int (28 : Int32)), (.int (5 : Int32)), (.ref b2)]))
  obtain ⟨cl23, Ar23, q23, S23, M23, H23, G23⟩ := id Vb2_21
  have hin23 : ¬ ((5 : Int32) < 0 ∨ cl23.slots.size ≤ ((5 : Int32)).toNatClampNeg) := inb_of S23 ⟨by decide, by decide⟩
  obtain ⟨T23, h23, X23, e23, W23, st23⟩ := stB X17 hx hZ e17 Ar23 (j := (5 : Int32)) hin23 (g := (mkF m 28 #[.val (.ref a1), .val (.ref b2)] [(.int (28 : Int32)), (.int (5 : Int32)), (.ref b2)])) rfl rfl (hb hby d1_28)
  have Vb2_24 : Arv Z h23 b2 k2 .byte (7 : Int32) [(.int (11 : Int32)), (.int x0), (.int x1), (.int x2), (.int x3), (.int (28 : Int32)), (.int (0 : Int32))] (.int (0 : Int32)) := Arv.set Ar23 q23 S23 M23 H23 G23 (fits_nar_byte _) W23 5 rfl (Nat.le_of_ble_eq_true rfl)
  have V_a1_25 := V_a1_18.other W23 ne3
  have Zp26 := Nat.le_trans Zp19 (Keep.of_wr W23).1
  have Kp27 := Kp20.wr W23 (Or.inr sz5)
  have Np28 := Fr.snoc X23 N17 ge4
  refine Go.on st23 ?_
  show Go p.tables e below s _ _ _ (T23.setTop (mkF m 29 #[.val (.ref a1), .val (.ref b2)] []))
  refine Go.on (fun t k => XS.aloadN X23.here hx rfl (hb hby d1_29) rfl rfl k) ?_
  show Go p.tables e below s _ _ _ (T23.setTop (mkF m 30 #[.val (.ref a1), .val (.ref b2)] [(.ref b2)]))
  refine Go.on (fun t k => XS.aloadN X23.here hx rfl (hb hby d1_30) rfl rfl k) ?_
  show Go p.tables e below s _ _ _ (T23.setTop (mkF m 31 #[.val (.ref a1), .val (.ref b2)] [(.ref b2), (.ref b2)]))
  obtain ⟨cl29, Ar29, q29, S29, M29, H29, G29⟩ := id Vb2_24
  refine Go.on (fun t k => X23.arraylength hx (by rw [e23]; exact Ar29.1) (State.isArrayOf_alike hZ.alike Ar29.2.1) (g := (mkF m 31 #[.val (.ref a1), .val (.ref b2)] [(.ref b2), (.ref b2)])) rfl rfl (hb hby d1_31) t k) ?_
  rw [len_of S29 M29]
  show Go p.tables e below s _ _ _ (T23.setTop (mkF m 32 #[.val (.ref a1), .val (.ref b2)] [(.int (7 : Int32)), (.ref b2)]))
  refine Go.on (fun t k => XS.iconst X23.here hx rfl (hb hby d1_32) k) ?_
  show Go p.tables e below s _ _ _ (T23.setTop (mkF m 33 #[.val (.ref a1), .val (.ref b2)] [(.int (1 : Int32)), (.int (7 : Int32)), (.ref b2)]))
  refine Go.on (fun t k => XS.isub X23.here hx rfl (hb hby d1_33) rfl k) ?_
  show Go p.tables e below s _ _ _ (T23.setTop (mkF m 34 #[.val (.ref a1), .val (.ref b2)] [(.int (6 : Int32)), (.ref b2)]))
  refine Go.on (fun t k => XS.bipush X23.here hx rfl (hb hby d1_34) k) ?_
  show Go p.tables e below s _ _ _ (T23.setTop (mkF m 36 #[.val (.ref a1), .val (.ref b2)] [(.int (13 : Int32)), (.int (6 : Int32)), (.ref b2)]))
  obtain ⟨cl30, Ar30, q30, S30, M30, H30, G30⟩ := id Vb2_24
  have hin30 : ¬ ((6 : Int32) < 0 ∨ cl30.slots.size ≤ ((6 : Int32)).toNatClampNeg) := inb_of S30 ⟨by decide, by decide⟩
  obtain ⟨T30, h30, X30, e30, W30, st30⟩ := stB X23 hx hZ e23 Ar30 (j := (6 : Int32)) hin30 (g := (mkF m 36 #[.val (.ref a1), .val (.ref b2)] [(.int (13 : Int32)), (.int (6 : Int32)), (.ref b2)])) rfl rfl (hb hby d1_36)
  have Vb2_31 : Arv Z h30 b2 k2 .byte (7 : Int32) [(.int (11 : Int32)), (.int x0), (.int x1), (.int x2), (.int x3), (.int (28 : Int32)), (.int (13 : Int32))] (.int (0 : Int32)) := Arv.set Ar30 q30 S30 M30 H30 G30 (fits_nar_byte _) W30 6 rfl (Nat.le_of_ble_eq_true rfl)
  have V_a1_32 := V_a1_25.other W30 ne3
  have Zp33 := Nat.le_trans Zp26 (Keep.of_wr W30).1
  have Kp34 := Kp27.wr W30 (Or.inr sz5)
  have Np35 := Fr.snoc X30 Np28 ge4
  refine Go.on st30 ?_
  show Go p.tables e below s _ _ _ (T30.setTop (mkF m 37 #[.val (.ref a1), .val (.ref b2)] []))
  refine Go.on (fun t k => XS.aloadN X30.here hx rfl (hb hby d1_37) rfl rfl k) ?_
  show Go p.tables e below s _ _ _ (T30.setTop (mkF m 38 #[.val (.ref a1), .val (.ref b2)] [(.ref b2)]))
  refine Go.retA X30 hx hlk (w := (.ref b2)) rfl Bd.returns rfl (hb hby d1_38) (by decide) (by decide) e30 ?_
  exact ⟨b2, k2, rfl, Np35, Kp34, ge4, sz5, Vb2_31⟩
theorem ef_0 (m : MethodId) (x0 : Int32) (x1 : Int32) (x2 : Int32) (x3 : Int32) (x4 : Int32) : entryFrame m #[(.int x0), (.int x1), (.int x2), (.int x3), (.int x4)] maxLocals = mkF m 0 #[.val (.int x0), .val (.int x1), .val (.int x2), .val (.int x3), .val (.int x4), .unset, .unset, .unset] [] := by first | (simp [entryFrame, mkF, argsToLocals, Value.category, maxLocals]; done) | rfl
def Q0 (Z : State) (p1 : Int32) (p2 : Int32) (p3 : Int32) (p4 : Int32) (p5 : Int32) (h0 : Heap) (n0 : Nat) (v : Option Value) (h : Heap) (L : List Loc) : Prop := v = some (.int (1 : Int32)) ∧ Fr n0 L
set_option maxRecDepth 65536 in
set_option maxHeartbeats 40000000 in
theorem rm0 (l : Launch) (Z : State) (a0 : Array Value) (hw : ∀ d ∈ tables_1, d.before a0 Z = true) (ws : List Jvm.Cond) (p1 : Int32) (p2 : Int32) (p3 : Int32) (p4 : Int32) (p5 : Int32) (h0 : Heap) (n0 : Nat) (Z0 : n0 ≤ h0.size)  :
    MetFree l x (head1 (Jvm.Cond.code x code maxLocals ret :: ws) room_1) (fun a U => a = #[(.int p1), (.int p2), (.int p3), (.int p4), (.int p5)] ∧ Z.Warmed39 U.vm ∧ U.heap = h0) (fun _ _ _ _ _ => True) (fun _ U o U' => ∃ v L, o = .returned v ∧ Q0 Z p1 p2 p3 p4 p5 h0 n0 v U'.heap L ∧ FrameEnd U o U' L room_1.cells room_1.slots) := by
  refine MetFree.of_bodySF (plainFor_of_name pn_com_example_rhythmwire_rhythmwire_hl7_MllpFramePinLaw) hisR ?_
  intro p e s m args below meth c s₁ Bd hml0 hP hK
  obtain ⟨rfl, hZ, hh⟩ := hP
  have hx := Bd.exec
  have hby := Bd.bytes
  have hlk : meth.locks = false := BodyLoose.notSynchronized Bd
  have hml : c.maxLocals = 8 := hml0
  have hown : s.vm.findClass "com/example/rhythmwire/rhythmwire/hl7/MllpFramePinLaw" = some m.cls := findClass_of_methodNamed Bd.named
  have hnm := (name_of_methodNamed Bd.named Bd.method).1
  have X0 : Stand p l e room_1 s m #[(.int p1), (.int p2), (.int p3), (.int p4), (.int p5)] below meth c s₁ [] 0 0 := Stand.of_body Bd
  have e0 : s₁.heap = h0 := by rw [← hh, Bd.state]; rfl
  have N0 := Fr.nil n0
  show Go p.tables e below s (Q0 Z p1 p2 p3 p4 p5 h0 n0) room_1.cells room_1.slots (s₁.setTop (entryFrame m #[(.int p1), (.int p2), (.int p3), (.int p4), (.int p5)] maxLocals))
  refine Go.on (fun t k => castTop (ef_0 m p1 p2 p3 p4 p5) k) ?_
  show Go p.tables e below s _ _ _ (s₁.setTop (mkF m 0 #[.val (.int p1), .val (.int p2), .val (.int p3), .val (.int p4), .val (.int p5), .unset, .unset, .unset] []))
  refine Go.on (fun t k => XS.iloadN X0.here hx rfl (hb hby at_0) rfl k) ?_
  show Go p.tables e below s _ _ _ (s₁.setTop (mkF m 1 #[.val (.int p1), .val (.int p2), .val (.int p3), .val (.int p4), .val (.int p5), .unset, .unset, .unset] [(.int p1)]))
  refine Go.on (fun t k => X0.ldcInt hx hown (mvT hZ (hw _ (List.mem_of_getElem? (i := 0) rfl))) (g := (mkF m 1 #[.val (.int p1), .val (.int p2), .val (.int p3), .val (.int p4), .val (.int p5), .unset, .unset, .unset] [(.int p1)])) rfl (hb hby at_1) t k) ?_
  show Go p.tables e below s _ _ _ (s₁.setTop (mkF m 3 #[.val (.int p1), .val (.int p2), .val (.int p3), .val (.int p4), .val (.int p5), .unset, .unset, .unset] [(.int (2147483647 : Int32)), (.int p1)]))
  refine Go.on (fun t k => XS.iand X0.here hx rfl (hb hby at_3) rfl k) ?_
  show Go p.tables e below s _ _ _ (s₁.setTop (mkF m 4 #[.val (.int p1), .val (.int p2), .val (.int p3), .val (.int p4), .val (.int p5), .unset, .unset, .unset] [(.int (p1 &&& (2147483647 : Int32)))]))
  refine Go.on (fun t k => XS.iconst X0.here hx rfl (hb hby at_4) k) ?_
  show Go p.tables e below s _ _ _ (s₁.setTop (mkF m 5 #[.val (.int p1), .val (.int p2), .val (.int p3), .val (.int p4), .val (.int p5), .unset, .unset, .unset] [(.int (5 : Int32)), (.int (p1 &&& (2147483647 : Int32)))]))
  refine Go.on (fun t k => Jvm.RoadKit.iremM X0 hx rfl (hb hby at_5) rfl (by decide) k) ?_
  show Go p.tables e below s _ _ _ (s₁.setTop (mkF m 6 #[.val (.int p1), .val (.int p2), .val (.int p3), .val (.int p4), .val (.int p5), .unset, .unset, .unset] [(.int ((p1 &&& (2147483647 : Int32)) % (5 : Int32)))]))
  rcases own_mod5 p1 with hs1 | hs1 | hs1 | hs1 | hs1
  · rw [hs1]
    refine Go.on (fun t k => XS.istore X0.here hx rfl (hb hby at_6) rfl (l' := #[.val (.int p1), .val (.int p2), .val (.int p3), .val (.int p4), .val (.int p5), .val (.int (0 : Int32)), .unset, .unset]) rfl k) ?_
    show Go p.tables e below s _ _ _ (s₁.setTop (mkF m 8 #[.val (.int p1), .val (.int p2), .val (.int p3), .val (.int p4), .val (.int p5), .val (.int (0 : Int32)), .unset, .unset] []))
    refine Go.on (fun t k => XS.iload X0.here hx rfl (hb hby at_8) rfl k) ?_
    show Go p.tables e below s _ _ _ (s₁.setTop (mkF m 10 #[.val (.int p1), .val (.int p2), .val (.int p3), .val (.int p4), .val (.int p5), .val (.int (0 : Int32)), .unset, .unset] [(.int (0 : Int32))]))
    obtain ⟨T2, h2, k2, X2, e2, E2, A2, st2⟩ := newP X0 hx hZ (hw _ (List.mem_of_getElem? (i := 1) rfl)) e0 (g := (mkF m 10 #[.val (.int p1), .val (.int p2), .val (.int p3), .val (.int p4), .val (.int p5), .val (.int (0 : Int32)), .unset, .unset] [(.int (0 : Int32))])) rfl (hb hby at_10) rfl (by decide) (cap := 0) (by decide) (by decide) (by decide) (by decide)
    obtain ⟨b2, g2⟩ : ∃ z, z = h0.size := ⟨_, rfl⟩
    rw [← g2] at A2 st2
    have ge3 : n0 ≤ b2 := Nat.le_trans Z0 (Nat.le_of_eq g2.symm)
    have Zp5 := Nat.le_trans Z0 E2.1
    have Vb2_6 : Arv Z h2 b2 k2 .byte (0 : Int32) [] (.int (0 : Int32)) := (Arv.new A2 (by decide)).pad (pad_rep [] (.int (0 : Int32)) 0)
    refine Go.on st2 ?_
    show Go p.tables e below s _ _ _ (T2.setTop (mkF m 12 #[.val (.int p1), .val (.int p2), .val (.int p3), .val (.int p4), .val (.int p5), .val (.int (0 : Int32)), .unset, .unset] [(.ref b2)]))
    refine Go.on (fun t k => XS.astore X2.here hx rfl (hb hby at_12) rfl rfl (l' := #[.val (.int p1), .val (.int p2), .val (.int p3), .val (.int p4), .val (.int p5), .val (.int (0 : Int32)), .val (.ref b2), .unset]) rfl k) ?_
    show Go p.tables e below s _ _ _ (T2.setTop (mkF m 14 #[.val (.int p1), .val (.int p2), .val (.int p3), .val (.int p4), .val (.int p5), .val (.int (0 : Int32)), .val (.ref b2), .unset] []))
    refine Go.on (fun t k => XS.iload X2.here hx rfl (hb hby at_14) rfl k) ?_
    show Go p.tables e below s _ _ _ (T2.setTop (mkF m 16 #[.val (.int p1), .val (.int p2), .val (.int p3), .val (.int p4), .val (.int p5), .val (.int (0 : Int32)), .val (.ref b2), .unset] [(.int (0 : Int32))]))
    refine Go.on (fun t k => XS.ifYes X2.here hx rfl (pc0 := 16) (pc' := 25) rfl (hb hby at_16) rfl ((if0 _ _).trans (flt (by decide : ¬ ((0 : Int32) < (0 : Int32)))).2.2.2) (by decide) (by decide) k) ?_
    show Go p.tables e below s _ _ _ (T2.setTop (mkF m 25 #[.val (.int p1), .val (.int p2), .val (.int p3), .val (.int p4), .val (.int p5), .val (.int (0 : Int32)), .val (.ref b2), .unset] []))
    refine Go.on (fun t k => XS.iload X2.here hx rfl (hb hby at_25) rfl k) ?_
    show Go p.tables e below s _ _ _ (T2.setTop (mkF m 27 #[.val (.int p1), .val (.int p2), .val (.int p3), .val (.int p4), .val (.int p5), .val (.int (0 : Int32)), .val (.ref b2), .unset] [(.int (0 : Int32))]))
    refine Go.on (fun t k => XS.iconst X2.here hx rfl (hb hby at_27) k) ?_
    show Go p.tables e below s _ _ _ (T2.setTop (mkF m 28 #[.val (.int p1), .val (.int p2), .val (.int p3), .val (.int p4), .val (.int p5), .val (.int (0 : Int32)), .val (.ref b2), .unset] [(.int (1 : Int32)), (.int (0 : Int32))]))
    refine Go.on (fun t k => XS.icmpYes X2.here hx rfl (pc0 := 28) (pc' := 37) rfl (hb hby at_28) rfl (flt (by decide : ¬ ((1 : Int32) < (0 : Int32)))).2.2.2 (by decide) (by decide) k) ?_
    show Go p.tables e below s _ _ _ (T2.setTop (mkF m 37 #[.val (.int p1), .val (.int p2), .val (.int p3), .val (.int p4), .val (.int p5), .val (.int (0 : Int32)), .val (.ref b2), .unset] []))
    refine Go.on (fun t k => XS.iload X2.here hx rfl (hb hby at_37) rfl k) ?_
    show Go p.tables e below s _ _ _ (T2.setTop (mkF m 39 #[.val (.int p1), .val (.int p2), .val (.int p3), .val (.int p4), .val (.int p5), .val (.int (0 : Int32)), .val (.ref b2), .unset] [(.int (0 : Int32))]))
    refine Go.on (fun t k => XS.iconst X2.here hx rfl (hb hby at_39) k) ?_
    show Go p.tables e below s _ _ _ (T2.setTop (mkF m 40 #[.val (.int p1), .val (.int p2), .val (.int p3), .val (.int p4), .val (.int p5), .val (.int (0 : Int32)), .val (.ref b2), .unset] [(.int (2 : Int32)), (.int (0 : Int32))]))
    refine Go.on (fun t k => XS.icmpYes X2.here hx rfl (pc0 := 40) (pc' := 49) rfl (hb hby at_40) rfl (flt (by decide : ¬ ((2 : Int32) < (0 : Int32)))).2.2.2 (by decide) (by decide) k) ?_
    show Go p.tables e below s _ _ _ (T2.setTop (mkF m 49 #[.val (.int p1), .val (.int p2), .val (.int p3), .val (.int p4), .val (.int p5), .val (.int (0 : Int32)), .val (.ref b2), .unset] []))
    refine Go.on (fun t k => XS.iload X2.here hx rfl (hb hby at_49) rfl k) ?_
    show Go p.tables e below s _ _ _ (T2.setTop (mkF m 51 #[.val (.int p1), .val (.int p2), .val (.int p3), .val (.int p4), .val (.int p5), .val (.int (0 : Int32)), .val (.ref b2), .unset] [(.int (0 : Int32))]))
    refine Go.on (fun t k => XS.iconst X2.here hx rfl (hb hby at_51) k) ?_
    show Go p.tables e below s _ _ _ (T2.setTop (mkF m 52 #[.val (.int p1), .val (.int p2), .val (.int p3), .val (.int p4), .val (.int p5), .val (.int (0 : Int32)), .val (.ref b2), .unset] [(.int (3 : Int32)), (.int (0 : Int32))]))
    refine Go.on (fun t k => XS.icmpYes X2.here hx rfl (pc0 := 52) (pc' := 62) rfl (hb hby at_52) rfl (flt (by decide : ¬ ((3 : Int32) < (0 : Int32)))).2.2.2 (by decide) (by decide) k) ?_
    show Go p.tables e below s _ _ _ (T2.setTop (mkF m 62 #[.val (.int p1), .val (.int p2), .val (.int p3), .val (.int p4), .val (.int p5), .val (.int (0 : Int32)), .val (.ref b2), .unset] []))
    refine Go.on (fun t k => XS.aload X2.here hx rfl (hb hby at_62) rfl rfl k) ?_
    show Go p.tables e below s _ _ _ (T2.setTop (mkF m 64 #[.val (.int p1), .val (.int p2), .val (.int p3), .val (.int p4), .val (.int p5), .val (.int (0 : Int32)), .val (.ref b2), .unset] [(.ref b2)]))
    obtain ⟨_, _, ⟨T7, L7, k7, n7⟩, -, X7, ⟨Lc7, hQ7, l7, y7, z7⟩, st7⟩ := Jvm.LawKit.callS X2 hx (y := (⟨"com/example/rhythmwire/rhythmwire/hl7/Mllp", "frame", "([B)[B"⟩ : MethodName)) hown (mvT hZ (hw _ (List.mem_of_getElem? (i := 2) rfl))) (mvT hZ (hw _ (List.mem_of_getElem? (i := 3) rfl))) (mvT hZ (hw _ (List.mem_of_getElem? (i := 4) rfl))) (mvT hZ (hw _ (List.mem_of_getElem? (i := 5) rfl))) (by decide) (backOf (W := 0) (rm1_0 l Z a0 hw [] b2 k2 h2 n0 Zp5 Vb2_6) hZ (hw _ (List.mem_of_getElem? (i := 5) rfl)) (hw _ (List.mem_of_getElem? (i := 4) rfl)) (by decide) (by decide)) (g := (mkF m 64 #[.val (.int p1), .val (.int p2), .val (.int p3), .val (.int p4), .val (.int p5), .val (.int (0 : Int32)), .val (.ref b2), .unset] [(.ref b2)])) rfl (by rw [hml]; rfl) (argsL := [(.ref b2)]) (rest := []) (lenOf pd__40__91_B_41__91_B rfl) rfl (by show 2 * 0 + _ ≤ _; exact Nat.le_of_eq rfl) (hb hby at_64) (fun _ _ => ⟨rfl, e2, (by decide : (0 + 1) + 1 ≤ _), (by decide : (0 + 0) + 3 ≤ _)⟩)
    dsimp only [Pt.U, Pt.locs, Pt.cells, Pt.slots] at X7 l7 y7 z7 st7 hQ7
    subst l7 y7 z7
    obtain ⟨b7, kb7, rfl, Nq7, Kq7, P7_0, P7_1, P7_2⟩ := hQ7
    have Vb2_8 := Vb2_6.keep Kq7 nin0
    have Zp9 := Nat.le_trans Zp5 Kq7.1
    have ne10 : b2 ≠ b7 := Nat.ne_of_lt (Nat.lt_of_lt_of_le Vb2_6.lt P7_1)
    have Np11 := Fr.app N0 Nq7
    refine Go.on st7 ?_
    show Go p.tables e below s _ _ _ (T7.setTop (mkF m 67 #[.val (.int p1), .val (.int p2), .val (.int p3), .val (.int p4), .val (.int p5), .val (.int (0 : Int32)), .val (.ref b2), .unset] [(.ref b7)]))
    refine Go.on (fun t k => XS.astore X7.here hx rfl (hb hby at_67) rfl rfl (l' := #[.val (.int p1), .val (.int p2), .val (.int p3), .val (.int p4), .val (.int p5), .val (.int (0 : Int32)), .val (.ref b2), .val (.ref b7)]) rfl k) ?_
    show Go p.tables e below s _ _ _ (T7.setTop (mkF m 69 #[.val (.int p1), .val (.int p2), .val (.int p3), .val (.int p4), .val (.int p5), .val (.int (0 : Int32)), .val (.ref b2), .val (.ref b7)] []))
    refine Go.on (fun t k => XS.aload X7.here hx rfl (hb hby at_69) rfl rfl k) ?_
    show Go p.tables e below s _ _ _ (T7.setTop (mkF m 71 #[.val (.int p1), .val (.int p2), .val (.int p3), .val (.int p4), .val (.int p5), .val (.int (0 : Int32)), .val (.ref b2), .val (.ref b7)] [(.ref b7)]))
    refine Go.on (fun t k => XS.ifnullNo X7.here hx rfl (hb hby at_71) rfl k) ?_
    show Go p.tables e below s _ _ _ (T7.setTop (mkF m 74 #[.val (.int p1), .val (.int p2), .val (.int p3), .val (.int p4), .val (.int p5), .val (.int (0 : Int32)), .val (.ref b2), .val (.ref b7)] []))
    refine Go.on (fun t k => XS.aload X7.here hx rfl (hb hby at_74) rfl rfl k) ?_
    show Go p.tables e below s _ _ _ (T7.setTop (mkF m 76 #[.val (.int p1), .val (.int p2), .val (.int p3), .val (.int p4), .val (.int p5), .val (.int (0 : Int32)), .val (.ref b2), .val (.ref b7)] [(.ref b7)]))
    obtain ⟨cl12, Ar12, q12, S12, M12, H12, G12⟩ := id P7_2
    refine Go.on (fun t k => X7.arraylength hx Ar12.1 (State.isArrayOf_alike hZ.alike Ar12.2.1) (g := (mkF m 76 #[.val (.int p1), .val (.int p2), .val (.int p3), .val (.int p4), .val (.int p5), .val (.int (0 : Int32)), .val (.ref b2), .val (.ref b7)] [(.ref b7)])) rfl rfl (hb hby at_76) t k) ?_
    rw [len_of S12 M12]
    show Go p.tables e below s _ _ _ (T7.setTop (mkF m 77 #[.val (.int p1), .val (.int p2), .val (.int p3), .val (.int p4), .val (.int p5), .val (.int (0 : Int32)), .val (.ref b2), .val (.ref b7)] [(.int (3 : Int32))]))
    refine Go.on (fun t k => XS.iload X7.here hx rfl (hb hby at_77) rfl k) ?_
    show Go p.tables e below s _ _ _ (T7.setTop (mkF m 79 #[.val (.int p1), .val (.int p2), .val (.int p3), .val (.int p4), .val (.int p5), .val (.int (0 : Int32)), .val (.ref b2), .val (.ref b7)] [(.int (0 : Int32)), (.int (3 : Int32))]))
    refine Go.on (fun t k => XS.iconst X7.here hx rfl (hb hby at_79) k) ?_
    show Go p.tables e below s _ _ _ (T7.setTop (mkF m 80 #[.val (.int p1), .val (.int p2), .val (.int p3), .val (.int p4), .val (.int p5), .val (.int (0 : Int32)), .val (.ref b2), .val (.ref b7)] [(.int (3 : Int32)), (.int (0 : Int32)), (.int (3 : Int32))]))
    refine Go.on (fun t k => XS.iadd X7.here hx rfl (hb hby at_80) rfl k) ?_
    show Go p.tables e below s _ _ _ (T7.setTop (mkF m 81 #[.val (.int p1), .val (.int p2), .val (.int p3), .val (.int p4), .val (.int p5), .val (.int (0 : Int32)), .val (.ref b2), .val (.ref b7)] [(.int (3 : Int32)), (.int (3 : Int32))]))
    refine Go.on (fun t k => XS.icmpYes X7.here hx rfl (pc0 := 81) (pc' := 86) rfl (hb hby at_81) rfl (teq (by decide : (3 : Int32) = (3 : Int32))).1 (by decide) (by decide) k) ?_
    show Go p.tables e below s _ _ _ (T7.setTop (mkF m 86 #[.val (.int p1), .val (.int p2), .val (.int p3), .val (.int p4), .val (.int p5), .val (.int (0 : Int32)), .val (.ref b2), .val (.ref b7)] []))
    refine Go.on (fun t k => XS.aload X7.here hx rfl (hb hby at_86) rfl rfl k) ?_
    show Go p.tables e below s _ _ _ (T7.setTop (mkF m 88 #[.val (.int p1), .val (.int p2), .val (.int p3), .val (.int p4), .val (.int p5), .val (.int (0 : Int32)), .val (.ref b2), .val (.ref b7)] [(.ref b7)]))
    refine Go.on (fun t k => XS.iconst X7.here hx rfl (hb hby at_88) k) ?_
    show Go p.tables e below s _ _ _ (T7.setTop (mkF m 89 #[.val (.int p1), .val (.int p2), .val (.int p3), .val (.int p4), .val (.int p5), .val (.int (0 : Int32)), .val (.ref b2), .val (.ref b7)] [(.int (0 : Int32)), (.ref b7)]))
    obtain ⟨cl13, Ar13, q13, S13, M13, H13, G13⟩ := id P7_2
    have hin13 : ¬ ((0 : Int32) < 0 ∨ cl13.slots.size ≤ ((0 : Int32)).toNatClampNeg) := inb_of S13 ⟨by decide, by decide⟩
    have hat13 : cl13.slots[((0 : Int32)).toNatClampNeg]? = some (.int (11 : Int32)) := H13.at hin13 rfl
    refine Go.on (fun t k => X7.baloadBytes hx (j := (0 : Int32)) (v := (.int (11 : Int32))) Ar13.1 (State.isArrayOf_alike hZ.alike Ar13.2.1) Ar13.2.2 hin13 hat13 (g := (mkF m 89 #[.val (.int p1), .val (.int p2), .val (.int p3), .val (.int p4), .val (.int p5), .val (.int (0 : Int32)), .val (.ref b2), .val (.ref b7)] [(.int (0 : Int32)), (.ref b7)])) rfl rfl (hb hby at_89) t k) ?_
    show Go p.tables e below s _ _ _ (T7.setTop (mkF m 90 #[.val (.int p1), .val (.int p2), .val (.int p3), .val (.int p4), .val (.int p5), .val (.int (0 : Int32)), .val (.ref b2), .val (.ref b7)] [(.int (11 : Int32))]))
    refine Go.on (fun t k => XS.bipush X7.here hx rfl (hb hby at_90) k) ?_
    show Go p.tables e below s _ _ _ (T7.setTop (mkF m 92 #[.val (.int p1), .val (.int p2), .val (.int p3), .val (.int p4), .val (.int p5), .val (.int (0 : Int32)), .val (.ref b2), .val (.ref b7)] [(.int (11 : Int32)), (.int (11 : Int32))]))
    refine Go.on (fun t k => XS.icmpYes X7.here hx rfl (pc0 := 92) (pc' := 97) rfl (hb hby at_92) rfl (teq (by decide : (11 : Int32) = (11 : Int32))).1 (by decide) (by decide) k) ?_
    show Go p.tables e below s _ _ _ (T7.setTop (mkF m 97 #[.val (.int p1), .val (.int p2), .val (.int p3), .val (.int p4), .val (.int p5), .val (.int (0 : Int32)), .val (.ref b2), .val (.ref b7)] []))
    refine Go.on (fun t k => XS.aload X7.here hx rfl (hb hby at_97) rfl rfl k) ?_
    show Go p.tables e below s _ _ _ (T7.setTop (mkF m 99 #[.val (.int p1), .val (.int p2), .val (.int p3), .val (.int p4), .val (.int p5), .val (.int (0 : Int32)), .val (.ref b2), .val (.ref b7)] [(.ref b7)]))
    refine Go.on (fun t k => XS.iload X7.here hx rfl (hb hby at_99) rfl k) ?_
    show Go p.tables e below s _ _ _ (T7.setTop (mkF m 101 #[.val (.int p1), .val (.int p2), .val (.int p3), .val (.int p4), .val (.int p5), .val (.int (0 : Int32)), .val (.ref b2), .val (.ref b7)] [(.int (0 : Int32)), (.ref b7)]))
    refine Go.on (fun t k => XS.iconst X7.here hx rfl (hb hby at_101) k) ?_
    show Go p.tables e below s _ _ _ (T7.setTop (mkF m 102 #[.val (.int p1), .val (.int p2), .val (.int p3), .val (.int p4), .val (.int p5), .val (.int (0 : Int32)), .val (.ref b2), .val (.ref b7)] [(.int (1 : Int32)), (.int (0 : Int32)), (.ref b7)]))
    refine Go.on (fun t k => XS.iadd X7.here hx rfl (hb hby at_102) rfl k) ?_
    show Go p.tables e below s _ _ _ (T7.setTop (mkF m 103 #[.val (.int p1), .val (.int p2), .val (.int p3), .val (.int p4), .val (.int p5), .val (.int (0 : Int32)), .val (.ref b2), .val (.ref b7)] [(.int (1 : Int32)), (.ref b7)]))
    obtain ⟨cl14, Ar14, q14, S14, M14, H14, G14⟩ := id P7_2
    have hin14 : ¬ ((1 : Int32) < 0 ∨ cl14.slots.size ≤ ((1 : Int32)).toNatClampNeg) := inb_of S14 ⟨by decide, by decide⟩
    have hat14 : cl14.slots[((1 : Int32)).toNatClampNeg]? = some (.int (28 : Int32)) := H14.at hin14 rfl
    refine Go.on (fun t k => X7.baloadBytes hx (j := (1 : Int32)) (v := (.int (28 : Int32))) Ar14.1 (State.isArrayOf_alike hZ.alike Ar14.2.1) Ar14.2.2 hin14 hat14 (g := (mkF m 103 #[.val (.int p1), .val (.int p2), .val (.int p3), .val (.int p4), .val (.int p5), .val (.int (0 : Int32)), .val (.ref b2), .val (.ref b7)] [(.int (1 : Int32)), (.ref b7)])) rfl rfl (hb hby at_103) t k) ?_
    show Go p.tables e below s _ _ _ (T7.setTop (mkF m 104 #[.val (.int p1), .val (.int p2), .val (.int p3), .val (.int p4), .val (.int p5), .val (.int (0 : Int32)), .val (.ref b2), .val (.ref b7)] [(.int (28 : Int32))]))
    refine Go.on (fun t k => XS.bipush X7.here hx rfl (hb hby at_104) k) ?_
    show Go p.tables e below s _ _ _ (T7.setTop (mkF m 106 #[.val (.int p1), .val (.int p2), .val (.int p3), .val (.int p4), .val (.int p5), .val (.int (0 : Int32)), .val (.ref b2), .val (.ref b7)] [(.int (28 : Int32)), (.int (28 : Int32))]))
    refine Go.on (fun t k => XS.icmpNo X7.here hx rfl (hb hby at_106) rfl (teq (by decide : (28 : Int32) = (28 : Int32))).2 k) ?_
    show Go p.tables e below s _ _ _ (T7.setTop (mkF m 109 #[.val (.int p1), .val (.int p2), .val (.int p3), .val (.int p4), .val (.int p5), .val (.int (0 : Int32)), .val (.ref b2), .val (.ref b7)] []))
    refine Go.on (fun t k => XS.aload X7.here hx rfl (hb hby at_109) rfl rfl k) ?_
    show Go p.tables e below s _ _ _ (T7.setTop (mkF m 111 #[.val (.int p1), .val (.int p2), .val (.int p3), .val (.int p4), .val (.int p5), .val (.int (0 : Int32)), .val (.ref b2), .val (.ref b7)] [(.ref b7)]))
    refine Go.on (fun t k => XS.iload X7.here hx rfl (hb hby at_111) rfl k) ?_
    show Go p.tables e below s _ _ _ (T7.setTop (mkF m 113 #[.val (.int p1), .val (.int p2), .val (.int p3), .val (.int p4), .val (.int p5), .val (.int (0 : Int32)), .val (.ref b2), .val (.ref b7)] [(.int (0 : Int32)), (.ref b7)]))
    refine Go.on (fun t k => XS.iconst X7.here hx rfl (hb hby at_113) k) ?_
    show Go p.tables e below s _ _ _ (T7.setTop (mkF m 114 #[.val (.int p1), .val (.int p2), .val (.int p3), .val (.int p4), .val (.int p5), .val (.int (0 : Int32)), .val (.ref b2), .val (.ref b7)] [(.int (2 : Int32)), (.int (0 : Int32)), (.ref b7)]))
    refine Go.on (fun t k => XS.iadd X7.here hx rfl (hb hby at_114) rfl k) ?_
    show Go p.tables e below s _ _ _ (T7.setTop (mkF m 115 #[.val (.int p1), .val (.int p2), .val (.int p3), .val (.int p4), .val (.int p5), .val (.int (0 : Int32)), .val (.ref b2), .val (.ref b7)] [(.int (2 : Int32)), (.ref b7)]))
    obtain ⟨cl15, Ar15, q15, S15, M15, H15, G15⟩ := id P7_2
    have hin15 : ¬ ((2 : Int32) < 0 ∨ cl15.slots.size ≤ ((2 : Int32)).toNatClampNeg) := inb_of S15 ⟨by decide, by decide⟩
    have hat15 : cl15.slots[((2 : Int32)).toNatClampNeg]? = some (.int (13 : Int32)) := H15.at hin15 rfl
    refine Go.on (fun t k => X7.baloadBytes hx (j := (2 : Int32)) (v := (.int (13 : Int32))) Ar15.1 (State.isArrayOf_alike hZ.alike Ar15.2.1) Ar15.2.2 hin15 hat15 (g := (mkF m 115 #[.val (.int p1), .val (.int p2), .val (.int p3), .val (.int p4), .val (.int p5), .val (.int (0 : Int32)), .val (.ref b2), .val (.ref b7)] [(.int (2 : Int32)), (.ref b7)])) rfl rfl (hb hby at_115) t k) ?_
    show Go p.tables e below s _ _ _ (T7.setTop (mkF m 116 #[.val (.int p1), .val (.int p2), .val (.int p3), .val (.int p4), .val (.int p5), .val (.int (0 : Int32)), .val (.ref b2), .val (.ref b7)] [(.int (13 : Int32))]))
    refine Go.on (fun t k => XS.bipush X7.here hx rfl (hb hby at_116) k) ?_
    show Go p.tables e below s _ _ _ (T7.setTop (mkF m 118 #[.val (.int p1), .val (.int p2), .val (.int p3), .val (.int p4), .val (.int p5), .val (.int (0 : Int32)), .val (.ref b2), .val (.ref b7)] [(.int (13 : Int32)), (.int (13 : Int32))]))
    refine Go.on (fun t k => XS.icmpYes X7.here hx rfl (pc0 := 118) (pc' := 123) rfl (hb hby at_118) rfl (teq (by decide : (13 : Int32) = (13 : Int32))).1 (by decide) (by decide) k) ?_
    show Go p.tables e below s _ _ _ (T7.setTop (mkF m 123 #[.val (.int p1), .val (.int p2), .val (.int p3), .val (.int p4), .val (.int p5), .val (.int (0 : Int32)), .val (.ref b2), .val (.ref b7)] []))
    refine Go.on (fun t k => XS.aload X7.here hx rfl (hb hby at_123) rfl rfl k) ?_
    show Go p.tables e below s _ _ _ (T7.setTop (mkF m 125 #[.val (.int p1), .val (.int p2), .val (.int p3), .val (.int p4), .val (.int p5), .val (.int (0 : Int32)), .val (.ref b2), .val (.ref b7)] [(.ref b7)]))
    refine Go.on (fun t k => XS.aload X7.here hx rfl (hb hby at_125) rfl rfl k) ?_
    show Go p.tables e below s _ _ _ (T7.setTop (mkF m 127 #[.val (.int p1), .val (.int p2), .val (.int p3), .val (.int p4), .val (.int p5), .val (.int (0 : Int32)), .val (.ref b2), .val (.ref b7)] [(.ref b2), (.ref b7)]))
    refine Go.on (fun t k => XS.iconst X7.here hx rfl (hb hby at_127) k) ?_
    show Go p.tables e below s _ _ _ (T7.setTop (mkF m 128 #[.val (.int p1), .val (.int p2), .val (.int p3), .val (.int p4), .val (.int p5), .val (.int (0 : Int32)), .val (.ref b2), .val (.ref b7)] [(.int (0 : Int32)), (.ref b2), (.ref b7)]))
    refine Go.on (fun t k => XS.iloadN X7.here hx rfl (hb hby at_128) rfl k) ?_
    show Go p.tables e below s _ _ _ (T7.setTop (mkF m 129 #[.val (.int p1), .val (.int p2), .val (.int p3), .val (.int p4), .val (.int p5), .val (.int (0 : Int32)), .val (.ref b2), .val (.ref b7)] [(.int p2), (.int (0 : Int32)), (.ref b2), (.ref b7)]))
    obtain ⟨_, _, ⟨T16, L16, k16, n16⟩, -, X16, ⟨Lc16, hQ16, l16, y16, z16⟩, st16⟩ := Jvm.LawKit.callS X7 hx (y := (⟨"com/example/rhythmwire/rhythmwire/hl7/MllpFramePinLaw", "slot", "([B[BII)Z"⟩ : MethodName)) hown (mvT hZ (hw _ (List.mem_of_getElem? (i := 10) rfl))) (mvT hZ (hw _ (List.mem_of_getElem? (i := 11) rfl))) (mvT hZ (hw _ (List.mem_of_getElem? (i := 12) rfl))) (mvT hZ (hw _ (List.mem_of_getElem? (i := 13) rfl))) (by decide) (backOf (W := 0) (rm2o l Z a0 hw [] b7 b2 (0 : Int32) p2 kb7 k2 (3 : Int32) (0 : Int32) ([(.int (11 : Int32)), (.int (28 : Int32)), (.int (13 : Int32))]) [] T7.heap n0 Zp9 P7_2 Vb2_8 (by decide)) hZ (hw _ (List.mem_of_getElem? (i := 13) rfl)) (hw _ (List.mem_of_getElem? (i := 12) rfl)) (by decide) (by decide)) (g := (mkF m 129 #[.val (.int p1), .val (.int p2), .val (.int p3), .val (.int p4), .val (.int p5), .val (.int (0 : Int32)), .val (.ref b2), .val (.ref b7)] [(.int p2), (.int (0 : Int32)), (.ref b2), (.ref b7)])) rfl (by rw [hml]; rfl) (argsL := [(.ref b7), (.ref b2), (.int (0 : Int32)), (.int p2)]) (rest := []) (lenOf pd__40__91_B_91_BII_41_Z rfl) rfl (by show 2 * 0 + _ ≤ _; exact Nat.le_of_eq rfl) (hb hby at_129) (fun _ _ => ⟨rfl, rfl, (by decide : ((0 + 1) + 1) + 0 ≤ _), (by decide : ((0 + 0) + 3) + 0 ≤ _)⟩)
    dsimp only [Pt.U, Pt.locs, Pt.cells, Pt.slots] at X16 l16 y16 z16 st16 hQ16
    subst l16 y16 z16
    obtain ⟨rfl, Nq16, e16⟩ := hQ16
    have Np17 := Fr.app Np11 Nq16
    refine Go.on st16 ?_
    show Go p.tables e below s _ _ _ (T16.setTop (mkF m 132 #[.val (.int p1), .val (.int p2), .val (.int p3), .val (.int p4), .val (.int p5), .val (.int (0 : Int32)), .val (.ref b2), .val (.ref b7)] [(.int (1 : Int32))]))
    refine Go.on (fun t k => XS.ifNo X16.here hx rfl (hb hby at_132) rfl ((if0 _ _).trans (feq (by decide : ¬ ((1 : Int32) = (0 : Int32)))).1) k) ?_
    show Go p.tables e below s _ _ _ (T16.setTop (mkF m 135 #[.val (.int p1), .val (.int p2), .val (.int p3), .val (.int p4), .val (.int p5), .val (.int (0 : Int32)), .val (.ref b2), .val (.ref b7)] []))
    refine Go.on (fun t k => XS.aload X16.here hx rfl (hb hby at_135) rfl rfl k) ?_
    show Go p.tables e below s _ _ _ (T16.setTop (mkF m 137 #[.val (.int p1), .val (.int p2), .val (.int p3), .val (.int p4), .val (.int p5), .val (.int (0 : Int32)), .val (.ref b2), .val (.ref b7)] [(.ref b7)]))
    refine Go.on (fun t k => XS.aload X16.here hx rfl (hb hby at_137) rfl rfl k) ?_
    show Go p.tables e below s _ _ _ (T16.setTop (mkF m 139 #[.val (.int p1), .val (.int p2), .val (.int p3), .val (.int p4), .val (.int p5), .val (.int (0 : Int32)), .val (.ref b2), .val (.ref b7)] [(.ref b2), (.ref b7)]))
    refine Go.on (fun t k => XS.iconst X16.here hx rfl (hb hby at_139) k) ?_
    show Go p.tables e below s _ _ _ (T16.setTop (mkF m 140 #[.val (.int p1), .val (.int p2), .val (.int p3), .val (.int p4), .val (.int p5), .val (.int (0 : Int32)), .val (.ref b2), .val (.ref b7)] [(.int (1 : Int32)), (.ref b2), (.ref b7)]))
    refine Go.on (fun t k => XS.iloadN X16.here hx rfl (hb hby at_140) rfl k) ?_
    show Go p.tables e below s _ _ _ (T16.setTop (mkF m 141 #[.val (.int p1), .val (.int p2), .val (.int p3), .val (.int p4), .val (.int p5), .val (.int (0 : Int32)), .val (.ref b2), .val (.ref b7)] [(.int p3), (.int (1 : Int32)), (.ref b2), (.ref b7)]))
    obtain ⟨_, _, ⟨T18, L18, k18, n18⟩, -, X18, ⟨Lc18, hQ18, l18, y18, z18⟩, st18⟩ := Jvm.LawKit.callS X16 hx (y := (⟨"com/example/rhythmwire/rhythmwire/hl7/MllpFramePinLaw", "slot", "([B[BII)Z"⟩ : MethodName)) hown (mvT hZ (hw _ (List.mem_of_getElem? (i := 10) rfl))) (mvT hZ (hw _ (List.mem_of_getElem? (i := 11) rfl))) (mvT hZ (hw _ (List.mem_of_getElem? (i := 12) rfl))) (mvT hZ (hw _ (List.mem_of_getElem? (i := 13) rfl))) (by decide) (backOf (W := 0) (rm2o l Z a0 hw [] b7 b2 (1 : Int32) p3 kb7 k2 (3 : Int32) (0 : Int32) ([(.int (11 : Int32)), (.int (28 : Int32)), (.int (13 : Int32))]) [] T7.heap n0 Zp9 P7_2 Vb2_8 (by decide)) hZ (hw _ (List.mem_of_getElem? (i := 13) rfl)) (hw _ (List.mem_of_getElem? (i := 12) rfl)) (by decide) (by decide)) (g := (mkF m 141 #[.val (.int p1), .val (.int p2), .val (.int p3), .val (.int p4), .val (.int p5), .val (.int (0 : Int32)), .val (.ref b2), .val (.ref b7)] [(.int p3), (.int (1 : Int32)), (.ref b2), (.ref b7)])) rfl (by rw [hml]; rfl) (argsL := [(.ref b7), (.ref b2), (.int (1 : Int32)), (.int p3)]) (rest := []) (lenOf pd__40__91_B_91_BII_41_Z rfl) rfl (by show 2 * 0 + _ ≤ _; exact Nat.le_of_eq rfl) (hb hby at_141) (fun _ _ => ⟨rfl, e16, (by decide : (((0 + 1) + 1) + 0) + 0 ≤ _), (by decide : (((0 + 0) + 3) + 0) + 0 ≤ _)⟩)
    dsimp only [Pt.U, Pt.locs, Pt.cells, Pt.slots] at X18 l18 y18 z18 st18 hQ18
    subst l18 y18 z18
    obtain ⟨rfl, Nq18, e18⟩ := hQ18
    have Np19 := Fr.app Np17 Nq18
    refine Go.on st18 ?_
    show Go p.tables e below s _ _ _ (T18.setTop (mkF m 144 #[.val (.int p1), .val (.int p2), .val (.int p3), .val (.int p4), .val (.int p5), .val (.int (0 : Int32)), .val (.ref b2), .val (.ref b7)] [(.int (1 : Int32))]))
    refine Go.on (fun t k => XS.ifNo X18.here hx rfl (hb hby at_144) rfl ((if0 _ _).trans (feq (by decide : ¬ ((1 : Int32) = (0 : Int32)))).1) k) ?_
    show Go p.tables e below s _ _ _ (T18.setTop (mkF m 147 #[.val (.int p1), .val (.int p2), .val (.int p3), .val (.int p4), .val (.int p5), .val (.int (0 : Int32)), .val (.ref b2), .val (.ref b7)] []))
    refine Go.on (fun t k => XS.aload X18.here hx rfl (hb hby at_147) rfl rfl k) ?_
    show Go p.tables e below s _ _ _ (T18.setTop (mkF m 149 #[.val (.int p1), .val (.int p2), .val (.int p3), .val (.int p4), .val (.int p5), .val (.int (0 : Int32)), .val (.ref b2), .val (.ref b7)] [(.ref b7)]))
    refine Go.on (fun t k => XS.aload X18.here hx rfl (hb hby at_149) rfl rfl k) ?_
    show Go p.tables e below s _ _ _ (T18.setTop (mkF m 151 #[.val (.int p1), .val (.int p2), .val (.int p3), .val (.int p4), .val (.int p5), .val (.int (0 : Int32)), .val (.ref b2), .val (.ref b7)] [(.ref b2), (.ref b7)]))
    refine Go.on (fun t k => XS.iconst X18.here hx rfl (hb hby at_151) k) ?_
    show Go p.tables e below s _ _ _ (T18.setTop (mkF m 152 #[.val (.int p1), .val (.int p2), .val (.int p3), .val (.int p4), .val (.int p5), .val (.int (0 : Int32)), .val (.ref b2), .val (.ref b7)] [(.int (2 : Int32)), (.ref b2), (.ref b7)]))
    refine Go.on (fun t k => XS.iloadN X18.here hx rfl (hb hby at_152) rfl k) ?_
    show Go p.tables e below s _ _ _ (T18.setTop (mkF m 153 #[.val (.int p1), .val (.int p2), .val (.int p3), .val (.int p4), .val (.int p5), .val (.int (0 : Int32)), .val (.ref b2), .val (.ref b7)] [(.int p4), (.int (2 : Int32)), (.ref b2), (.ref b7)]))
    obtain ⟨_, _, ⟨T20, L20, k20, n20⟩, -, X20, ⟨Lc20, hQ20, l20, y20, z20⟩, st20⟩ := Jvm.LawKit.callS X18 hx (y := (⟨"com/example/rhythmwire/rhythmwire/hl7/MllpFramePinLaw", "slot", "([B[BII)Z"⟩ : MethodName)) hown (mvT hZ (hw _ (List.mem_of_getElem? (i := 10) rfl))) (mvT hZ (hw _ (List.mem_of_getElem? (i := 11) rfl))) (mvT hZ (hw _ (List.mem_of_getElem? (i := 12) rfl))) (mvT hZ (hw _ (List.mem_of_getElem? (i := 13) rfl))) (by decide) (backOf (W := 0) (rm2o l Z a0 hw [] b7 b2 (2 : Int32) p4 kb7 k2 (3 : Int32) (0 : Int32) ([(.int (11 : Int32)), (.int (28 : Int32)), (.int (13 : Int32))]) [] T7.heap n0 Zp9 P7_2 Vb2_8 (by decide)) hZ (hw _ (List.mem_of_getElem? (i := 13) rfl)) (hw _ (List.mem_of_getElem? (i := 12) rfl)) (by decide) (by decide)) (g := (mkF m 153 #[.val (.int p1), .val (.int p2), .val (.int p3), .val (.int p4), .val (.int p5), .val (.int (0 : Int32)), .val (.ref b2), .val (.ref b7)] [(.int p4), (.int (2 : Int32)), (.ref b2), (.ref b7)])) rfl (by rw [hml]; rfl) (argsL := [(.ref b7), (.ref b2), (.int (2 : Int32)), (.int p4)]) (rest := []) (lenOf pd__40__91_B_91_BII_41_Z rfl) rfl (by show 2 * 0 + _ ≤ _; exact Nat.le_of_eq rfl) (hb hby at_153) (fun _ _ => ⟨rfl, e18, (by decide : ((((0 + 1) + 1) + 0) + 0) + 0 ≤ _), (by decide : ((((0 + 0) + 3) + 0) + 0) + 0 ≤ _)⟩)
    dsimp only [Pt.U, Pt.locs, Pt.cells, Pt.slots] at X20 l20 y20 z20 st20 hQ20
    subst l20 y20 z20
    obtain ⟨rfl, Nq20, e20⟩ := hQ20
    have Np21 := Fr.app Np19 Nq20
    refine Go.on st20 ?_
    show Go p.tables e below s _ _ _ (T20.setTop (mkF m 156 #[.val (.int p1), .val (.int p2), .val (.int p3), .val (.int p4), .val (.int p5), .val (.int (0 : Int32)), .val (.ref b2), .val (.ref b7)] [(.int (1 : Int32))]))
    refine Go.on (fun t k => XS.ifNo X20.here hx rfl (hb hby at_156) rfl ((if0 _ _).trans (feq (by decide : ¬ ((1 : Int32) = (0 : Int32)))).1) k) ?_
    show Go p.tables e below s _ _ _ (T20.setTop (mkF m 159 #[.val (.int p1), .val (.int p2), .val (.int p3), .val (.int p4), .val (.int p5), .val (.int (0 : Int32)), .val (.ref b2), .val (.ref b7)] []))
    refine Go.on (fun t k => XS.aload X20.here hx rfl (hb hby at_159) rfl rfl k) ?_
    show Go p.tables e below s _ _ _ (T20.setTop (mkF m 161 #[.val (.int p1), .val (.int p2), .val (.int p3), .val (.int p4), .val (.int p5), .val (.int (0 : Int32)), .val (.ref b2), .val (.ref b7)] [(.ref b7)]))
    refine Go.on (fun t k => XS.aload X20.here hx rfl (hb hby at_161) rfl rfl k) ?_
    show Go p.tables e below s _ _ _ (T20.setTop (mkF m 163 #[.val (.int p1), .val (.int p2), .val (.int p3), .val (.int p4), .val (.int p5), .val (.int (0 : Int32)), .val (.ref b2), .val (.ref b7)] [(.ref b2), (.ref b7)]))
    refine Go.on (fun t k => XS.iconst X20.here hx rfl (hb hby at_163) k) ?_
    show Go p.tables e below s _ _ _ (T20.setTop (mkF m 164 #[.val (.int p1), .val (.int p2), .val (.int p3), .val (.int p4), .val (.int p5), .val (.int (0 : Int32)), .val (.ref b2), .val (.ref b7)] [(.int (3 : Int32)), (.ref b2), (.ref b7)]))
    refine Go.on (fun t k => XS.iload X20.here hx rfl (hb hby at_164) rfl k) ?_
    show Go p.tables e below s _ _ _ (T20.setTop (mkF m 166 #[.val (.int p1), .val (.int p2), .val (.int p3), .val (.int p4), .val (.int p5), .val (.int (0 : Int32)), .val (.ref b2), .val (.ref b7)] [(.int p5), (.int (3 : Int32)), (.ref b2), (.ref b7)]))
    obtain ⟨_, _, ⟨T22, L22, k22, n22⟩, -, X22, ⟨Lc22, hQ22, l22, y22, z22⟩, st22⟩ := Jvm.LawKit.callS X20 hx (y := (⟨"com/example/rhythmwire/rhythmwire/hl7/MllpFramePinLaw", "slot", "([B[BII)Z"⟩ : MethodName)) hown (mvT hZ (hw _ (List.mem_of_getElem? (i := 10) rfl))) (mvT hZ (hw _ (List.mem_of_getElem? (i := 11) rfl))) (mvT hZ (hw _ (List.mem_of_getElem? (i := 12) rfl))) (mvT hZ (hw _ (List.mem_of_getElem? (i := 13) rfl))) (by decide) (backOf (W := 0) (rm2o l Z a0 hw [] b7 b2 (3 : Int32) p5 kb7 k2 (3 : Int32) (0 : Int32) ([(.int (11 : Int32)), (.int (28 : Int32)), (.int (13 : Int32))]) [] T7.heap n0 Zp9 P7_2 Vb2_8 (by decide)) hZ (hw _ (List.mem_of_getElem? (i := 13) rfl)) (hw _ (List.mem_of_getElem? (i := 12) rfl)) (by decide) (by decide)) (g := (mkF m 166 #[.val (.int p1), .val (.int p2), .val (.int p3), .val (.int p4), .val (.int p5), .val (.int (0 : Int32)), .val (.ref b2), .val (.ref b7)] [(.int p5), (.int (3 : Int32)), (.ref b2), (.ref b7)])) rfl (by rw [hml]; rfl) (argsL := [(.ref b7), (.ref b2), (.int (3 : Int32)), (.int p5)]) (rest := []) (lenOf pd__40__91_B_91_BII_41_Z rfl) rfl (by show 2 * 0 + _ ≤ _; exact Nat.le_of_eq rfl) (hb hby at_166) (fun _ _ => ⟨rfl, e20, (by decide : (((((0 + 1) + 1) + 0) + 0) + 0) + 0 ≤ _), (by decide : (((((0 + 0) + 3) + 0) + 0) + 0) + 0 ≤ _)⟩)
    dsimp only [Pt.U, Pt.locs, Pt.cells, Pt.slots] at X22 l22 y22 z22 st22 hQ22
    subst l22 y22 z22
    obtain ⟨rfl, Nq22, e22⟩ := hQ22
    have Np23 := Fr.app Np21 Nq22
    refine Go.on st22 ?_
    show Go p.tables e below s _ _ _ (T22.setTop (mkF m 169 #[.val (.int p1), .val (.int p2), .val (.int p3), .val (.int p4), .val (.int p5), .val (.int (0 : Int32)), .val (.ref b2), .val (.ref b7)] [(.int (1 : Int32))]))
    refine Go.on (fun t k => XS.ifNo X22.here hx rfl (hb hby at_169) rfl ((if0 _ _).trans (feq (by decide : ¬ ((1 : Int32) = (0 : Int32)))).1) k) ?_
    show Go p.tables e below s _ _ _ (T22.setTop (mkF m 172 #[.val (.int p1), .val (.int p2), .val (.int p3), .val (.int p4), .val (.int p5), .val (.int (0 : Int32)), .val (.ref b2), .val (.ref b7)] []))
    refine Go.on (fun t k => XS.iconst X22.here hx rfl (hb hby at_172) k) ?_
    show Go p.tables e below s _ _ _ (T22.setTop (mkF m 173 #[.val (.int p1), .val (.int p2), .val (.int p3), .val (.int p4), .val (.int p5), .val (.int (0 : Int32)), .val (.ref b2), .val (.ref b7)] [(.int (1 : Int32))]))
    refine Go.on (fun t k => XS.goto X22.here hx rfl (pc0 := 173) (pc' := 177) rfl (hb hby at_173) (by decide) (by decide) k) ?_
    show Go p.tables e below s _ _ _ (T22.setTop (mkF m 177 #[.val (.int p1), .val (.int p2), .val (.int p3), .val (.int p4), .val (.int p5), .val (.int (0 : Int32)), .val (.ref b2), .val (.ref b7)] [(.int (1 : Int32))]))
    refine Go.retN X22 hx hlk (t := .boolean) Bd.returns (by simp) (hb hby at_177) (by decide) (by decide) e22 ?_
    exact ⟨rfl, Np23⟩
  · rw [hs1]
    refine Go.on (fun t k => XS.istore X0.here hx rfl (hb hby at_6) rfl (l' := #[.val (.int p1), .val (.int p2), .val (.int p3), .val (.int p4), .val (.int p5), .val (.int (1 : Int32)), .unset, .unset]) rfl k) ?_
    show Go p.tables e below s _ _ _ (s₁.setTop (mkF m 8 #[.val (.int p1), .val (.int p2), .val (.int p3), .val (.int p4), .val (.int p5), .val (.int (1 : Int32)), .unset, .unset] []))
    refine Go.on (fun t k => XS.iload X0.here hx rfl (hb hby at_8) rfl k) ?_
    show Go p.tables e below s _ _ _ (s₁.setTop (mkF m 10 #[.val (.int p1), .val (.int p2), .val (.int p3), .val (.int p4), .val (.int p5), .val (.int (1 : Int32)), .unset, .unset] [(.int (1 : Int32))]))
    obtain ⟨T24, h24, k24, X24, e24, E24, A24, st24⟩ := newP X0 hx hZ (hw _ (List.mem_of_getElem? (i := 1) rfl)) e0 (g := (mkF m 10 #[.val (.int p1), .val (.int p2), .val (.int p3), .val (.int p4), .val (.int p5), .val (.int (1 : Int32)), .unset, .unset] [(.int (1 : Int32))])) rfl (hb hby at_10) rfl (by decide) (cap := 1) (by decide) (by decide) (by decide) (by decide)
    obtain ⟨b24, g24⟩ : ∃ z, z = h0.size := ⟨_, rfl⟩
    rw [← g24] at A24 st24
    have ge25 : n0 ≤ b24 := Nat.le_trans Z0 (Nat.le_of_eq g24.symm)
    have Zp27 := Nat.le_trans Z0 E24.1
    have Vb24_28 : Arv Z h24 b24 k24 .byte (1 : Int32) [(.int (0 : Int32))] (.int (0 : Int32)) := (Arv.new A24 (by decide)).pad (pad_rep [] (.int (0 : Int32)) 1)
    refine Go.on st24 ?_
    show Go p.tables e below s _ _ _ (T24.setTop (mkF m 12 #[.val (.int p1), .val (.int p2), .val (.int p3), .val (.int p4), .val (.int p5), .val (.int (1 : Int32)), .unset, .unset] [(.ref b24)]))
    refine Go.on (fun t k => XS.astore X24.here hx rfl (hb hby at_12) rfl rfl (l' := #[.val (.int p1), .val (.int p2), .val (.int p3), .val (.int p4), .val (.int p5), .val (.int (1 : Int32)), .val (.ref b24), .unset]) rfl k) ?_
    show Go p.tables e below s _ _ _ (T24.setTop (mkF m 14 #[.val (.int p1), .val (.int p2), .val (.int p3), .val (.int p4), .val (.int p5), .val (.int (1 : Int32)), .val (.ref b24), .unset] []))
    refine Go.on (fun t k => XS.iload X24.here hx rfl (hb hby at_14) rfl k) ?_
    show Go p.tables e below s _ _ _ (T24.setTop (mkF m 16 #[.val (.int p1), .val (.int p2), .val (.int p3), .val (.int p4), .val (.int p5), .val (.int (1 : Int32)), .val (.ref b24), .unset] [(.int (1 : Int32))]))
    refine Go.on (fun t k => XS.ifNo X24.here hx rfl (hb hby at_16) rfl ((if0 _ _).trans (tlt (by decide : (0 : Int32) < (1 : Int32))).2.2.2) k) ?_
    show Go p.tables e below s _ _ _ (T24.setTop (mkF m 19 #[.val (.int p1), .val (.int p2), .val (.int p3), .val (.int p4), .val (.int p5), .val (.int (1 : Int32)), .val (.ref b24), .unset] []))
    refine Go.on (fun t k => XS.aload X24.here hx rfl (hb hby at_19) rfl rfl k) ?_
    show Go p.tables e below s _ _ _ (T24.setTop (mkF m 21 #[.val (.int p1), .val (.int p2), .val (.int p3), .val (.int p4), .val (.int p5), .val (.int (1 : Int32)), .val (.ref b24), .unset] [(.ref b24)]))
    refine Go.on (fun t k => XS.iconst X24.here hx rfl (hb hby at_21) k) ?_
    show Go p.tables e below s _ _ _ (T24.setTop (mkF m 22 #[.val (.int p1), .val (.int p2), .val (.int p3), .val (.int p4), .val (.int p5), .val (.int (1 : Int32)), .val (.ref b24), .unset] [(.int (0 : Int32)), (.ref b24)]))
    refine Go.on (fun t k => XS.iloadN X24.here hx rfl (hb hby at_22) rfl k) ?_
    show Go p.tables e below s _ _ _ (T24.setTop (mkF m 23 #[.val (.int p1), .val (.int p2), .val (.int p3), .val (.int p4), .val (.int p5), .val (.int (1 : Int32)), .val (.ref b24), .unset] [(.int p2), (.int (0 : Int32)), (.ref b24)]))
    refine Go.on (fun t k => XS.i2b X24.here hx rfl (hb hby at_23) rfl k) ?_
    show Go p.tables e below s _ _ _ (T24.setTop (mkF m 24 #[.val (.int p1), .val (.int p2), .val (.int p3), .val (.int p4), .val (.int p5), .val (.int (1 : Int32)), .val (.ref b24), .unset] [(.int (p2.toInt8.toInt32)), (.int (0 : Int32)), (.ref b24)]))
    obtain ⟨cl29, Ar29, q29, S29, M29, H29, G29⟩ := id Vb24_28
    have hin29 : ¬ ((0 : Int32) < 0 ∨ cl29.slots.size ≤ ((0 : Int32)).toNatClampNeg) := inb_of S29 ⟨by decide, by decide⟩
    obtain ⟨T29, h29, X29, e29, W29, st29⟩ := stB X24 hx hZ e24 Ar29 (j := (0 : Int32)) hin29 (g := (mkF m 24 #[.val (.int p1), .val (.int p2), .val (.int p3), .val (.int p4), .val (.int p5), .val (.int (1 : Int32)), .val (.ref b24), .unset] [(.int (p2.toInt8.toInt32)), (.int (0 : Int32)), (.ref b24)])) rfl rfl (hb hby at_24)
    rw [own_nb] at W29
    have Vb24_30 : Arv Z h29 b24 k24 .byte (1 : Int32) [(.int (p2.toInt8.toInt32))] (.int (0 : Int32)) := Arv.set Ar29 q29 S29 M29 H29 G29 (fits_nar_byte _) W29 0 rfl (Nat.le_of_ble_eq_true rfl)
    have Zp31 := Nat.le_trans Zp27 (Keep.of_wr W29).1
    have Np32 := Fr.snoc X29 N0 ge25
    refine Go.on st29 ?_
    show Go p.tables e below s _ _ _ (T29.setTop (mkF m 25 #[.val (.int p1), .val (.int p2), .val (.int p3), .val (.int p4), .val (.int p5), .val (.int (1 : Int32)), .val (.ref b24), .unset] []))
    refine Go.on (fun t k => XS.iload X29.here hx rfl (hb hby at_25) rfl k) ?_
    show Go p.tables e below s _ _ _ (T29.setTop (mkF m 27 #[.val (.int p1), .val (.int p2), .val (.int p3), .val (.int p4), .val (.int p5), .val (.int (1 : Int32)), .val (.ref b24), .unset] [(.int (1 : Int32))]))
    refine Go.on (fun t k => XS.iconst X29.here hx rfl (hb hby at_27) k) ?_
    show Go p.tables e below s _ _ _ (T29.setTop (mkF m 28 #[.val (.int p1), .val (.int p2), .val (.int p3), .val (.int p4), .val (.int p5), .val (.int (1 : Int32)), .val (.ref b24), .unset] [(.int (1 : Int32)), (.int (1 : Int32))]))
    refine Go.on (fun t k => XS.icmpYes X29.here hx rfl (pc0 := 28) (pc' := 37) rfl (hb hby at_28) rfl (flt (by decide : ¬ ((1 : Int32) < (1 : Int32)))).2.2.2 (by decide) (by decide) k) ?_
    show Go p.tables e below s _ _ _ (T29.setTop (mkF m 37 #[.val (.int p1), .val (.int p2), .val (.int p3), .val (.int p4), .val (.int p5), .val (.int (1 : Int32)), .val (.ref b24), .unset] []))
    refine Go.on (fun t k => XS.iload X29.here hx rfl (hb hby at_37) rfl k) ?_
    show Go p.tables e below s _ _ _ (T29.setTop (mkF m 39 #[.val (.int p1), .val (.int p2), .val (.int p3), .val (.int p4), .val (.int p5), .val (.int (1 : Int32)), .val (.ref b24), .unset] [(.int (1 : Int32))]))
    refine Go.on (fun t k => XS.iconst X29.here hx rfl (hb hby at_39) k) ?_
    show Go p.tables e below s _ _ _ (T29.setTop (mkF m 40 #[.val (.int p1), .val (.int p2), .val (.int p3), .val (.int p4), .val (.int p5), .val (.int (1 : Int32)), .val (.ref b24), .unset] [(.int (2 : Int32)), (.int (1 : Int32))]))
    refine Go.on (fun t k => XS.icmpYes X29.here hx rfl (pc0 := 40) (pc' := 49) rfl (hb hby at_40) rfl (flt (by decide : ¬ ((2 : Int32) < (1 : Int32)))).2.2.2 (by decide) (by decide) k) ?_
    show Go p.tables e below s _ _ _ (T29.setTop (mkF m 49 #[.val (.int p1), .val (.int p2), .val (.int p3), .val (.int p4), .val (.int p5), .val (.int (1 : Int32)), .val (.ref b24), .unset] []))
    refine Go.on (fun t k => XS.iload X29.here hx rfl (hb hby at_49) rfl k) ?_
    show Go p.tables e below s _ _ _ (T29.setTop (mkF m 51 #[.val (.int p1), .val (.int p2), .val (.int p3), .val (.int p4), .val (.int p5), .val (.int (1 : Int32)), .val (.ref b24), .unset] [(.int (1 : Int32))]))
    refine Go.on (fun t k => XS.iconst X29.here hx rfl (hb hby at_51) k) ?_
    show Go p.tables e below s _ _ _ (T29.setTop (mkF m 52 #[.val (.int p1), .val (.int p2), .val (.int p3), .val (.int p4), .val (.int p5), .val (.int (1 : Int32)), .val (.ref b24), .unset] [(.int (3 : Int32)), (.int (1 : Int32))]))
    refine Go.on (fun t k => XS.icmpYes X29.here hx rfl (pc0 := 52) (pc' := 62) rfl (hb hby at_52) rfl (flt (by decide : ¬ ((3 : Int32) < (1 : Int32)))).2.2.2 (by decide) (by decide) k) ?_
    show Go p.tables e below s _ _ _ (T29.setTop (mkF m 62 #[.val (.int p1), .val (.int p2), .val (.int p3), .val (.int p4), .val (.int p5), .val (.int (1 : Int32)), .val (.ref b24), .unset] []))
    refine Go.on (fun t k => XS.aload X29.here hx rfl (hb hby at_62) rfl rfl k) ?_
    show Go p.tables e below s _ _ _ (T29.setTop (mkF m 64 #[.val (.int p1), .val (.int p2), .val (.int p3), .val (.int p4), .val (.int p5), .val (.int (1 : Int32)), .val (.ref b24), .unset] [(.ref b24)]))
    obtain ⟨_, _, ⟨T33, L33, k33, n33⟩, -, X33, ⟨Lc33, hQ33, l33, y33, z33⟩, st33⟩ := Jvm.LawKit.callS X29 hx (y := (⟨"com/example/rhythmwire/rhythmwire/hl7/Mllp", "frame", "([B)[B"⟩ : MethodName)) hown (mvT hZ (hw _ (List.mem_of_getElem? (i := 2) rfl))) (mvT hZ (hw _ (List.mem_of_getElem? (i := 3) rfl))) (mvT hZ (hw _ (List.mem_of_getElem? (i := 4) rfl))) (mvT hZ (hw _ (List.mem_of_getElem? (i := 5) rfl))) (by decide) (backOf (W := 0) (rm1_1 l Z a0 hw [] b24 k24 p2.toInt8.toInt32 h29 n0 Zp31 Vb24_30) hZ (hw _ (List.mem_of_getElem? (i := 5) rfl)) (hw _ (List.mem_of_getElem? (i := 4) rfl)) (by decide) (by decide)) (g := (mkF m 64 #[.val (.int p1), .val (.int p2), .val (.int p3), .val (.int p4), .val (.int p5), .val (.int (1 : Int32)), .val (.ref b24), .unset] [(.ref b24)])) rfl (by rw [hml]; rfl) (argsL := [(.ref b24)]) (rest := []) (lenOf pd__40__91_B_41__91_B rfl) rfl (by show 2 * 0 + _ ≤ _; exact Nat.le_of_eq rfl) (hb hby at_64) (fun _ _ => ⟨rfl, e29, (by decide : (0 + 1) + 1 ≤ _), (by decide : (0 + 1) + 4 ≤ _)⟩)
    dsimp only [Pt.U, Pt.locs, Pt.cells, Pt.slots] at X33 l33 y33 z33 st33 hQ33
    subst l33 y33 z33
    obtain ⟨b33, kb33, rfl, Nq33, Kq33, P33_0, P33_1, P33_2⟩ := hQ33
    have Vb24_34 := Vb24_30.keep Kq33 nin0
    have Zp35 := Nat.le_trans Zp31 Kq33.1
    have ne36 : b24 ≠ b33 := Nat.ne_of_lt (Nat.lt_of_lt_of_le Vb24_30.lt P33_1)
    have Np37 := Fr.app Np32 Nq33
    refine Go.on st33 ?_
    show Go p.tables e below s _ _ _ (T33.setTop (mkF m 67 #[.val (.int p1), .val (.int p2), .val (.int p3), .val (.int p4), .val (.int p5), .val (.int (1 : Int32)), .val (.ref b24), .unset] [(.ref b33)]))
    refine Go.on (fun t k => XS.astore X33.here hx rfl (hb hby at_67) rfl rfl (l' := #[.val (.int p1), .val (.int p2), .val (.int p3), .val (.int p4), .val (.int p5), .val (.int (1 : Int32)), .val (.ref b24), .val (.ref b33)]) rfl k) ?_
    show Go p.tables e below s _ _ _ (T33.setTop (mkF m 69 #[.val (.int p1), .val (.int p2), .val (.int p3), .val (.int p4), .val (.int p5), .val (.int (1 : Int32)), .val (.ref b24), .val (.ref b33)] []))
    refine Go.on (fun t k => XS.aload X33.here hx rfl (hb hby at_69) rfl rfl k) ?_
    show Go p.tables e below s _ _ _ (T33.setTop (mkF m 71 #[.val (.int p1), .val (.int p2), .val (.int p3), .val (.int p4), .val (.int p5), .val (.int (1 : Int32)), .val (.ref b24), .val (.ref b33)] [(.ref b33)]))
    refine Go.on (fun t k => XS.ifnullNo X33.here hx rfl (hb hby at_71) rfl k) ?_
    show Go p.tables e below s _ _ _ (T33.setTop (mkF m 74 #[.val (.int p1), .val (.int p2), .val (.int p3), .val (.int p4), .val (.int p5), .val (.int (1 : Int32)), .val (.ref b24), .val (.ref b33)] []))
    refine Go.on (fun t k => XS.aload X33.here hx rfl (hb hby at_74) rfl rfl k) ?_
    show Go p.tables e below s _ _ _ (T33.setTop (mkF m 76 #[.val (.int p1), .val (.int p2), .val (.int p3), .val (.int p4), .val (.int p5), .val (.int (1 : Int32)), .val (.ref b24), .val (.ref b33)] [(.ref b33)]))
    obtain ⟨cl38, Ar38, q38, S38, M38, H38, G38⟩ := id P33_2
    refine Go.on (fun t k => X33.arraylength hx Ar38.1 (State.isArrayOf_alike hZ.alike Ar38.2.1) (g := (mkF m 76 #[.val (.int p1), .val (.int p2), .val (.int p3), .val (.int p4), .val (.int p5), .val (.int (1 : Int32)), .val (.ref b24), .val (.ref b33)] [(.ref b33)])) rfl rfl (hb hby at_76) t k) ?_
    rw [len_of S38 M38]
    show Go p.tables e below s _ _ _ (T33.setTop (mkF m 77 #[.val (.int p1), .val (.int p2), .val (.int p3), .val (.int p4), .val (.int p5), .val (.int (1 : Int32)), .val (.ref b24), .val (.ref b33)] [(.int (4 : Int32))]))
    refine Go.on (fun t k => XS.iload X33.here hx rfl (hb hby at_77) rfl k) ?_
    show Go p.tables e below s _ _ _ (T33.setTop (mkF m 79 #[.val (.int p1), .val (.int p2), .val (.int p3), .val (.int p4), .val (.int p5), .val (.int (1 : Int32)), .val (.ref b24), .val (.ref b33)] [(.int (1 : Int32)), (.int (4 : Int32))]))
    refine Go.on (fun t k => XS.iconst X33.here hx rfl (hb hby at_79) k) ?_
    show Go p.tables e below s _ _ _ (T33.setTop (mkF m 80 #[.val (.int p1), .val (.int p2), .val (.int p3), .val (.int p4), .val (.int p5), .val (.int (1 : Int32)), .val (.ref b24), .val (.ref b33)] [(.int (3 : Int32)), (.int (1 : Int32)), (.int (4 : Int32))]))
    refine Go.on (fun t k => XS.iadd X33.here hx rfl (hb hby at_80) rfl k) ?_
    show Go p.tables e below s _ _ _ (T33.setTop (mkF m 81 #[.val (.int p1), .val (.int p2), .val (.int p3), .val (.int p4), .val (.int p5), .val (.int (1 : Int32)), .val (.ref b24), .val (.ref b33)] [(.int (4 : Int32)), (.int (4 : Int32))]))
    refine Go.on (fun t k => XS.icmpYes X33.here hx rfl (pc0 := 81) (pc' := 86) rfl (hb hby at_81) rfl (teq (by decide : (4 : Int32) = (4 : Int32))).1 (by decide) (by decide) k) ?_
    show Go p.tables e below s _ _ _ (T33.setTop (mkF m 86 #[.val (.int p1), .val (.int p2), .val (.int p3), .val (.int p4), .val (.int p5), .val (.int (1 : Int32)), .val (.ref b24), .val (.ref b33)] []))
    refine Go.on (fun t k => XS.aload X33.here hx rfl (hb hby at_86) rfl rfl k) ?_
    show Go p.tables e below s _ _ _ (T33.setTop (mkF m 88 #[.val (.int p1), .val (.int p2), .val (.int p3), .val (.int p4), .val (.int p5), .val (.int (1 : Int32)), .val (.ref b24), .val (.ref b33)] [(.ref b33)]))
    refine Go.on (fun t k => XS.iconst X33.here hx rfl (hb hby at_88) k) ?_
    show Go p.tables e below s _ _ _ (T33.setTop (mkF m 89 #[.val (.int p1), .val (.int p2), .val (.int p3), .val (.int p4), .val (.int p5), .val (.int (1 : Int32)), .val (.ref b24), .val (.ref b33)] [(.int (0 : Int32)), (.ref b33)]))
    obtain ⟨cl39, Ar39, q39, S39, M39, H39, G39⟩ := id P33_2
    have hin39 : ¬ ((0 : Int32) < 0 ∨ cl39.slots.size ≤ ((0 : Int32)).toNatClampNeg) := inb_of S39 ⟨by decide, by decide⟩
    have hat39 : cl39.slots[((0 : Int32)).toNatClampNeg]? = some (.int (11 : Int32)) := H39.at hin39 rfl
    refine Go.on (fun t k => X33.baloadBytes hx (j := (0 : Int32)) (v := (.int (11 : Int32))) Ar39.1 (State.isArrayOf_alike hZ.alike Ar39.2.1) Ar39.2.2 hin39 hat39 (g := (mkF m 89 #[.val (.int p1), .val (.int p2), .val (.int p3), .val (.int p4), .val (.int p5), .val (.int (1 : Int32)), .val (.ref b24), .val (.ref b33)] [(.int (0 : Int32)), (.ref b33)])) rfl rfl (hb hby at_89) t k) ?_
    show Go p.tables e below s _ _ _ (T33.setTop (mkF m 90 #[.val (.int p1), .val (.int p2), .val (.int p3), .val (.int p4), .val (.int p5), .val (.int (1 : Int32)), .val (.ref b24), .val (.ref b33)] [(.int (11 : Int32))]))
    refine Go.on (fun t k => XS.bipush X33.here hx rfl (hb hby at_90) k) ?_
    show Go p.tables e below s _ _ _ (T33.setTop (mkF m 92 #[.val (.int p1), .val (.int p2), .val (.int p3), .val (.int p4), .val (.int p5), .val (.int (1 : Int32)), .val (.ref b24), .val (.ref b33)] [(.int (11 : Int32)), (.int (11 : Int32))]))
    refine Go.on (fun t k => XS.icmpYes X33.here hx rfl (pc0 := 92) (pc' := 97) rfl (hb hby at_92) rfl (teq (by decide : (11 : Int32) = (11 : Int32))).1 (by decide) (by decide) k) ?_
    show Go p.tables e below s _ _ _ (T33.setTop (mkF m 97 #[.val (.int p1), .val (.int p2), .val (.int p3), .val (.int p4), .val (.int p5), .val (.int (1 : Int32)), .val (.ref b24), .val (.ref b33)] []))
    refine Go.on (fun t k => XS.aload X33.here hx rfl (hb hby at_97) rfl rfl k) ?_
    show Go p.tables e below s _ _ _ (T33.setTop (mkF m 99 #[.val (.int p1), .val (.int p2), .val (.int p3), .val (.int p4), .val (.int p5), .val (.int (1 : Int32)), .val (.ref b24), .val (.ref b33)] [(.ref b33)]))
    refine Go.on (fun t k => XS.iload X33.here hx rfl (hb hby at_99) rfl k) ?_
    show Go p.tables e below s _ _ _ (T33.setTop (mkF m 101 #[.val (.int p1), .val (.int p2), .val (.int p3), .val (.int p4), .val (.int p5), .val (.int (1 : Int32)), .val (.ref b24), .val (.ref b33)] [(.int (1 : Int32)), (.ref b33)]))
    refine Go.on (fun t k => XS.iconst X33.here hx rfl (hb hby at_101) k) ?_
    show Go p.tables e below s _ _ _ (T33.setTop (mkF m 102 #[.val (.int p1), .val (.int p2), .val (.int p3), .val (.int p4), .val (.int p5), .val (.int (1 : Int32)), .val (.ref b24), .val (.ref b33)] [(.int (1 : Int32)), (.int (1 : Int32)), (.ref b33)]))
    refine Go.on (fun t k => XS.iadd X33.here hx rfl (hb hby at_102) rfl k) ?_
    show Go p.tables e below s _ _ _ (T33.setTop (mkF m 103 #[.val (.int p1), .val (.int p2), .val (.int p3), .val (.int p4), .val (.int p5), .val (.int (1 : Int32)), .val (.ref b24), .val (.ref b33)] [(.int (2 : Int32)), (.ref b33)]))
    obtain ⟨cl40, Ar40, q40, S40, M40, H40, G40⟩ := id P33_2
    have hin40 : ¬ ((2 : Int32) < 0 ∨ cl40.slots.size ≤ ((2 : Int32)).toNatClampNeg) := inb_of S40 ⟨by decide, by decide⟩
    have hat40 : cl40.slots[((2 : Int32)).toNatClampNeg]? = some (.int (28 : Int32)) := H40.at hin40 rfl
    refine Go.on (fun t k => X33.baloadBytes hx (j := (2 : Int32)) (v := (.int (28 : Int32))) Ar40.1 (State.isArrayOf_alike hZ.alike Ar40.2.1) Ar40.2.2 hin40 hat40 (g := (mkF m 103 #[.val (.int p1), .val (.int p2), .val (.int p3), .val (.int p4), .val (.int p5), .val (.int (1 : Int32)), .val (.ref b24), .val (.ref b33)] [(.int (2 : Int32)), (.ref b33)])) rfl rfl (hb hby at_103) t k) ?_
    show Go p.tables e below s _ _ _ (T33.setTop (mkF m 104 #[.val (.int p1), .val (.int p2), .val (.int p3), .val (.int p4), .val (.int p5), .val (.int (1 : Int32)), .val (.ref b24), .val (.ref b33)] [(.int (28 : Int32))]))
    refine Go.on (fun t k => XS.bipush X33.here hx rfl (hb hby at_104) k) ?_
    show Go p.tables e below s _ _ _ (T33.setTop (mkF m 106 #[.val (.int p1), .val (.int p2), .val (.int p3), .val (.int p4), .val (.int p5), .val (.int (1 : Int32)), .val (.ref b24), .val (.ref b33)] [(.int (28 : Int32)), (.int (28 : Int32))]))
    refine Go.on (fun t k => XS.icmpNo X33.here hx rfl (hb hby at_106) rfl (teq (by decide : (28 : Int32) = (28 : Int32))).2 k) ?_
    show Go p.tables e below s _ _ _ (T33.setTop (mkF m 109 #[.val (.int p1), .val (.int p2), .val (.int p3), .val (.int p4), .val (.int p5), .val (.int (1 : Int32)), .val (.ref b24), .val (.ref b33)] []))
    refine Go.on (fun t k => XS.aload X33.here hx rfl (hb hby at_109) rfl rfl k) ?_
    show Go p.tables e below s _ _ _ (T33.setTop (mkF m 111 #[.val (.int p1), .val (.int p2), .val (.int p3), .val (.int p4), .val (.int p5), .val (.int (1 : Int32)), .val (.ref b24), .val (.ref b33)] [(.ref b33)]))
    refine Go.on (fun t k => XS.iload X33.here hx rfl (hb hby at_111) rfl k) ?_
    show Go p.tables e below s _ _ _ (T33.setTop (mkF m 113 #[.val (.int p1), .val (.int p2), .val (.int p3), .val (.int p4), .val (.int p5), .val (.int (1 : Int32)), .val (.ref b24), .val (.ref b33)] [(.int (1 : Int32)), (.ref b33)]))
    refine Go.on (fun t k => XS.iconst X33.here hx rfl (hb hby at_113) k) ?_
    show Go p.tables e below s _ _ _ (T33.setTop (mkF m 114 #[.val (.int p1), .val (.int p2), .val (.int p3), .val (.int p4), .val (.int p5), .val (.int (1 : Int32)), .val (.ref b24), .val (.ref b33)] [(.int (2 : Int32)), (.int (1 : Int32)), (.ref b33)]))
    refine Go.on (fun t k => XS.iadd X33.here hx rfl (hb hby at_114) rfl k) ?_
    show Go p.tables e below s _ _ _ (T33.setTop (mkF m 115 #[.val (.int p1), .val (.int p2), .val (.int p3), .val (.int p4), .val (.int p5), .val (.int (1 : Int32)), .val (.ref b24), .val (.ref b33)] [(.int (3 : Int32)), (.ref b33)]))
    obtain ⟨cl41, Ar41, q41, S41, M41, H41, G41⟩ := id P33_2
    have hin41 : ¬ ((3 : Int32) < 0 ∨ cl41.slots.size ≤ ((3 : Int32)).toNatClampNeg) := inb_of S41 ⟨by decide, by decide⟩
    have hat41 : cl41.slots[((3 : Int32)).toNatClampNeg]? = some (.int (13 : Int32)) := H41.at hin41 rfl
    refine Go.on (fun t k => X33.baloadBytes hx (j := (3 : Int32)) (v := (.int (13 : Int32))) Ar41.1 (State.isArrayOf_alike hZ.alike Ar41.2.1) Ar41.2.2 hin41 hat41 (g := (mkF m 115 #[.val (.int p1), .val (.int p2), .val (.int p3), .val (.int p4), .val (.int p5), .val (.int (1 : Int32)), .val (.ref b24), .val (.ref b33)] [(.int (3 : Int32)), (.ref b33)])) rfl rfl (hb hby at_115) t k) ?_
    show Go p.tables e below s _ _ _ (T33.setTop (mkF m 116 #[.val (.int p1), .val (.int p2), .val (.int p3), .val (.int p4), .val (.int p5), .val (.int (1 : Int32)), .val (.ref b24), .val (.ref b33)] [(.int (13 : Int32))]))
    refine Go.on (fun t k => XS.bipush X33.here hx rfl (hb hby at_116) k) ?_
    show Go p.tables e below s _ _ _ (T33.setTop (mkF m 118 #[.val (.int p1), .val (.int p2), .val (.int p3), .val (.int p4), .val (.int p5), .val (.int (1 : Int32)), .val (.ref b24), .val (.ref b33)] [(.int (13 : Int32)), (.int (13 : Int32))]))
    refine Go.on (fun t k => XS.icmpYes X33.here hx rfl (pc0 := 118) (pc' := 123) rfl (hb hby at_118) rfl (teq (by decide : (13 : Int32) = (13 : Int32))).1 (by decide) (by decide) k) ?_
    show Go p.tables e below s _ _ _ (T33.setTop (mkF m 123 #[.val (.int p1), .val (.int p2), .val (.int p3), .val (.int p4), .val (.int p5), .val (.int (1 : Int32)), .val (.ref b24), .val (.ref b33)] []))
    refine Go.on (fun t k => XS.aload X33.here hx rfl (hb hby at_123) rfl rfl k) ?_
    show Go p.tables e below s _ _ _ (T33.setTop (mkF m 125 #[.val (.int p1), .val (.int p2), .val (.int p3), .val (.int p4), .val (.int p5), .val (.int (1 : Int32)), .val (.ref b24), .val (.ref b33)] [(.ref b33)]))
    refine Go.on (fun t k => XS.aload X33.here hx rfl (hb hby at_125) rfl rfl k) ?_
    show Go p.tables e below s _ _ _ (T33.setTop (mkF m 127 #[.val (.int p1), .val (.int p2), .val (.int p3), .val (.int p4), .val (.int p5), .val (.int (1 : Int32)), .val (.ref b24), .val (.ref b33)] [(.ref b24), (.ref b33)]))
    refine Go.on (fun t k => XS.iconst X33.here hx rfl (hb hby at_127) k) ?_
    show Go p.tables e below s _ _ _ (T33.setTop (mkF m 128 #[.val (.int p1), .val (.int p2), .val (.int p3), .val (.int p4), .val (.int p5), .val (.int (1 : Int32)), .val (.ref b24), .val (.ref b33)] [(.int (0 : Int32)), (.ref b24), (.ref b33)]))
    refine Go.on (fun t k => XS.iloadN X33.here hx rfl (hb hby at_128) rfl k) ?_
    show Go p.tables e below s _ _ _ (T33.setTop (mkF m 129 #[.val (.int p1), .val (.int p2), .val (.int p3), .val (.int p4), .val (.int p5), .val (.int (1 : Int32)), .val (.ref b24), .val (.ref b33)] [(.int p2), (.int (0 : Int32)), (.ref b24), (.ref b33)]))
    obtain ⟨_, _, ⟨T42, L42, k42, n42⟩, -, X42, ⟨Lc42, hQ42, l42, y42, z42⟩, st42⟩ := Jvm.LawKit.callS X33 hx (y := (⟨"com/example/rhythmwire/rhythmwire/hl7/MllpFramePinLaw", "slot", "([B[BII)Z"⟩ : MethodName)) hown (mvT hZ (hw _ (List.mem_of_getElem? (i := 10) rfl))) (mvT hZ (hw _ (List.mem_of_getElem? (i := 11) rfl))) (mvT hZ (hw _ (List.mem_of_getElem? (i := 12) rfl))) (mvT hZ (hw _ (List.mem_of_getElem? (i := 13) rfl))) (by decide) (backOf (W := 0) (rm2i l Z a0 hw [] b33 b24 (0 : Int32) p2 kb33 k24 (4 : Int32) (1 : Int32) ([(.int (11 : Int32)), (.int p2.toInt8.toInt32), (.int (28 : Int32)), (.int (13 : Int32))]) ([(.int (p2.toInt8.toInt32))]) T33.heap n0 Zp35 P33_2 Vb24_34 ⟨by decide, by decide⟩ ⟨by decide, by decide⟩ rfl rfl) hZ (hw _ (List.mem_of_getElem? (i := 13) rfl)) (hw _ (List.mem_of_getElem? (i := 12) rfl)) (by decide) (by decide)) (g := (mkF m 129 #[.val (.int p1), .val (.int p2), .val (.int p3), .val (.int p4), .val (.int p5), .val (.int (1 : Int32)), .val (.ref b24), .val (.ref b33)] [(.int p2), (.int (0 : Int32)), (.ref b24), (.ref b33)])) rfl (by rw [hml]; rfl) (argsL := [(.ref b33), (.ref b24), (.int (0 : Int32)), (.int p2)]) (rest := []) (lenOf pd__40__91_B_91_BII_41_Z rfl) rfl (by show 2 * 0 + _ ≤ _; exact Nat.le_of_eq rfl) (hb hby at_129) (fun _ _ => ⟨rfl, rfl, (by decide : ((0 + 1) + 1) + 0 ≤ _), (by decide : ((0 + 1) + 4) + 0 ≤ _)⟩)
    dsimp only [Pt.U, Pt.locs, Pt.cells, Pt.slots] at X42 l42 y42 z42 st42 hQ42
    subst l42 y42 z42
    obtain ⟨rfl, Nq42, e42⟩ := hQ42
    have Np43 := Fr.app Np37 Nq42
    refine Go.on st42 ?_
    show Go p.tables e below s _ _ _ (T42.setTop (mkF m 132 #[.val (.int p1), .val (.int p2), .val (.int p3), .val (.int p4), .val (.int p5), .val (.int (1 : Int32)), .val (.ref b24), .val (.ref b33)] [(.int (1 : Int32))]))
    refine Go.on (fun t k => XS.ifNo X42.here hx rfl (hb hby at_132) rfl ((if0 _ _).trans (feq (by decide : ¬ ((1 : Int32) = (0 : Int32)))).1) k) ?_
    show Go p.tables e below s _ _ _ (T42.setTop (mkF m 135 #[.val (.int p1), .val (.int p2), .val (.int p3), .val (.int p4), .val (.int p5), .val (.int (1 : Int32)), .val (.ref b24), .val (.ref b33)] []))
    refine Go.on (fun t k => XS.aload X42.here hx rfl (hb hby at_135) rfl rfl k) ?_
    show Go p.tables e below s _ _ _ (T42.setTop (mkF m 137 #[.val (.int p1), .val (.int p2), .val (.int p3), .val (.int p4), .val (.int p5), .val (.int (1 : Int32)), .val (.ref b24), .val (.ref b33)] [(.ref b33)]))
    refine Go.on (fun t k => XS.aload X42.here hx rfl (hb hby at_137) rfl rfl k) ?_
    show Go p.tables e below s _ _ _ (T42.setTop (mkF m 139 #[.val (.int p1), .val (.int p2), .val (.int p3), .val (.int p4), .val (.int p5), .val (.int (1 : Int32)), .val (.ref b24), .val (.ref b33)] [(.ref b24), (.ref b33)]))
    refine Go.on (fun t k => XS.iconst X42.here hx rfl (hb hby at_139) k) ?_
    show Go p.tables e below s _ _ _ (T42.setTop (mkF m 140 #[.val (.int p1), .val (.int p2), .val (.int p3), .val (.int p4), .val (.int p5), .val (.int (1 : Int32)), .val (.ref b24), .val (.ref b33)] [(.int (1 : Int32)), (.ref b24), (.ref b33)]))
    refine Go.on (fun t k => XS.iloadN X42.here hx rfl (hb hby at_140) rfl k) ?_
    show Go p.tables e below s _ _ _ (T42.setTop (mkF m 141 #[.val (.int p1), .val (.int p2), .val (.int p3), .val (.int p4), .val (.int p5), .val (.int (1 : Int32)), .val (.ref b24), .val (.ref b33)] [(.int p3), (.int (1 : Int32)), (.ref b24), (.ref b33)]))
    obtain ⟨_, _, ⟨T44, L44, k44, n44⟩, -, X44, ⟨Lc44, hQ44, l44, y44, z44⟩, st44⟩ := Jvm.LawKit.callS X42 hx (y := (⟨"com/example/rhythmwire/rhythmwire/hl7/MllpFramePinLaw", "slot", "([B[BII)Z"⟩ : MethodName)) hown (mvT hZ (hw _ (List.mem_of_getElem? (i := 10) rfl))) (mvT hZ (hw _ (List.mem_of_getElem? (i := 11) rfl))) (mvT hZ (hw _ (List.mem_of_getElem? (i := 12) rfl))) (mvT hZ (hw _ (List.mem_of_getElem? (i := 13) rfl))) (by decide) (backOf (W := 0) (rm2o l Z a0 hw [] b33 b24 (1 : Int32) p3 kb33 k24 (4 : Int32) (1 : Int32) ([(.int (11 : Int32)), (.int p2.toInt8.toInt32), (.int (28 : Int32)), (.int (13 : Int32))]) ([(.int (p2.toInt8.toInt32))]) T33.heap n0 Zp35 P33_2 Vb24_34 (by decide)) hZ (hw _ (List.mem_of_getElem? (i := 13) rfl)) (hw _ (List.mem_of_getElem? (i := 12) rfl)) (by decide) (by decide)) (g := (mkF m 141 #[.val (.int p1), .val (.int p2), .val (.int p3), .val (.int p4), .val (.int p5), .val (.int (1 : Int32)), .val (.ref b24), .val (.ref b33)] [(.int p3), (.int (1 : Int32)), (.ref b24), (.ref b33)])) rfl (by rw [hml]; rfl) (argsL := [(.ref b33), (.ref b24), (.int (1 : Int32)), (.int p3)]) (rest := []) (lenOf pd__40__91_B_91_BII_41_Z rfl) rfl (by show 2 * 0 + _ ≤ _; exact Nat.le_of_eq rfl) (hb hby at_141) (fun _ _ => ⟨rfl, e42, (by decide : (((0 + 1) + 1) + 0) + 0 ≤ _), (by decide : (((0 + 1) + 4) + 0) + 0 ≤ _)⟩)
    dsimp only [Pt.U, Pt.locs, Pt.cells, Pt.slots] at X44 l44 y44 z44 st44 hQ44
    subst l44 y44 z44
    obtain ⟨rfl, Nq44, e44⟩ := hQ44
    have Np45 := Fr.app Np43 Nq44
    refine Go.on st44 ?_
    show Go p.tables e below s _ _ _ (T44.setTop (mkF m 144 #[.val (.int p1), .val (.int p2), .val (.int p3), .val (.int p4), .val (.int p5), .val (.int (1 : Int32)), .val (.ref b24), .val (.ref b33)] [(.int (1 : Int32))]))
    refine Go.on (fun t k => XS.ifNo X44.here hx rfl (hb hby at_144) rfl ((if0 _ _).trans (feq (by decide : ¬ ((1 : Int32) = (0 : Int32)))).1) k) ?_
    show Go p.tables e below s _ _ _ (T44.setTop (mkF m 147 #[.val (.int p1), .val (.int p2), .val (.int p3), .val (.int p4), .val (.int p5), .val (.int (1 : Int32)), .val (.ref b24), .val (.ref b33)] []))
    refine Go.on (fun t k => XS.aload X44.here hx rfl (hb hby at_147) rfl rfl k) ?_
    show Go p.tables e below s _ _ _ (T44.setTop (mkF m 149 #[.val (.int p1), .val (.int p2), .val (.int p3), .val (.int p4), .val (.int p5), .val (.int (1 : Int32)), .val (.ref b24), .val (.ref b33)] [(.ref b33)]))
    refine Go.on (fun t k => XS.aload X44.here hx rfl (hb hby at_149) rfl rfl k) ?_
    show Go p.tables e below s _ _ _ (T44.setTop (mkF m 151 #[.val (.int p1), .val (.int p2), .val (.int p3), .val (.int p4), .val (.int p5), .val (.int (1 : Int32)), .val (.ref b24), .val (.ref b33)] [(.ref b24), (.ref b33)]))
    refine Go.on (fun t k => XS.iconst X44.here hx rfl (hb hby at_151) k) ?_
    show Go p.tables e below s _ _ _ (T44.setTop (mkF m 152 #[.val (.int p1), .val (.int p2), .val (.int p3), .val (.int p4), .val (.int p5), .val (.int (1 : Int32)), .val (.ref b24), .val (.ref b33)] [(.int (2 : Int32)), (.ref b24), (.ref b33)]))
    refine Go.on (fun t k => XS.iloadN X44.here hx rfl (hb hby at_152) rfl k) ?_
    show Go p.tables e below s _ _ _ (T44.setTop (mkF m 153 #[.val (.int p1), .val (.int p2), .val (.int p3), .val (.int p4), .val (.int p5), .val (.int (1 : Int32)), .val (.ref b24), .val (.ref b33)] [(.int p4), (.int (2 : Int32)), (.ref b24), (.ref b33)]))
    obtain ⟨_, _, ⟨T46, L46, k46, n46⟩, -, X46, ⟨Lc46, hQ46, l46, y46, z46⟩, st46⟩ := Jvm.LawKit.callS X44 hx (y := (⟨"com/example/rhythmwire/rhythmwire/hl7/MllpFramePinLaw", "slot", "([B[BII)Z"⟩ : MethodName)) hown (mvT hZ (hw _ (List.mem_of_getElem? (i := 10) rfl))) (mvT hZ (hw _ (List.mem_of_getElem? (i := 11) rfl))) (mvT hZ (hw _ (List.mem_of_getElem? (i := 12) rfl))) (mvT hZ (hw _ (List.mem_of_getElem? (i := 13) rfl))) (by decide) (backOf (W := 0) (rm2o l Z a0 hw [] b33 b24 (2 : Int32) p4 kb33 k24 (4 : Int32) (1 : Int32) ([(.int (11 : Int32)), (.int p2.toInt8.toInt32), (.int (28 : Int32)), (.int (13 : Int32))]) ([(.int (p2.toInt8.toInt32))]) T33.heap n0 Zp35 P33_2 Vb24_34 (by decide)) hZ (hw _ (List.mem_of_getElem? (i := 13) rfl)) (hw _ (List.mem_of_getElem? (i := 12) rfl)) (by decide) (by decide)) (g := (mkF m 153 #[.val (.int p1), .val (.int p2), .val (.int p3), .val (.int p4), .val (.int p5), .val (.int (1 : Int32)), .val (.ref b24), .val (.ref b33)] [(.int p4), (.int (2 : Int32)), (.ref b24), (.ref b33)])) rfl (by rw [hml]; rfl) (argsL := [(.ref b33), (.ref b24), (.int (2 : Int32)), (.int p4)]) (rest := []) (lenOf pd__40__91_B_91_BII_41_Z rfl) rfl (by show 2 * 0 + _ ≤ _; exact Nat.le_of_eq rfl) (hb hby at_153) (fun _ _ => ⟨rfl, e44, (by decide : ((((0 + 1) + 1) + 0) + 0) + 0 ≤ _), (by decide : ((((0 + 1) + 4) + 0) + 0) + 0 ≤ _)⟩)
    dsimp only [Pt.U, Pt.locs, Pt.cells, Pt.slots] at X46 l46 y46 z46 st46 hQ46
    subst l46 y46 z46
    obtain ⟨rfl, Nq46, e46⟩ := hQ46
    have Np47 := Fr.app Np45 Nq46
    refine Go.on st46 ?_
    show Go p.tables e below s _ _ _ (T46.setTop (mkF m 156 #[.val (.int p1), .val (.int p2), .val (.int p3), .val (.int p4), .val (.int p5), .val (.int (1 : Int32)), .val (.ref b24), .val (.ref b33)] [(.int (1 : Int32))]))
    refine Go.on (fun t k => XS.ifNo X46.here hx rfl (hb hby at_156) rfl ((if0 _ _).trans (feq (by decide : ¬ ((1 : Int32) = (0 : Int32)))).1) k) ?_
    show Go p.tables e below s _ _ _ (T46.setTop (mkF m 159 #[.val (.int p1), .val (.int p2), .val (.int p3), .val (.int p4), .val (.int p5), .val (.int (1 : Int32)), .val (.ref b24), .val (.ref b33)] []))
    refine Go.on (fun t k => XS.aload X46.here hx rfl (hb hby at_159) rfl rfl k) ?_
    show Go p.tables e below s _ _ _ (T46.setTop (mkF m 161 #[.val (.int p1), .val (.int p2), .val (.int p3), .val (.int p4), .val (.int p5), .val (.int (1 : Int32)), .val (.ref b24), .val (.ref b33)] [(.ref b33)]))
    refine Go.on (fun t k => XS.aload X46.here hx rfl (hb hby at_161) rfl rfl k) ?_
    show Go p.tables e below s _ _ _ (T46.setTop (mkF m 163 #[.val (.int p1), .val (.int p2), .val (.int p3), .val (.int p4), .val (.int p5), .val (.int (1 : Int32)), .val (.ref b24), .val (.ref b33)] [(.ref b24), (.ref b33)]))
    refine Go.on (fun t k => XS.iconst X46.here hx rfl (hb hby at_163) k) ?_
    show Go p.tables e below s _ _ _ (T46.setTop (mkF m 164 #[.val (.int p1), .val (.int p2), .val (.int p3), .val (.int p4), .val (.int p5), .val (.int (1 : Int32)), .val (.ref b24), .val (.ref b33)] [(.int (3 : Int32)), (.ref b24), (.ref b33)]))
    refine Go.on (fun t k => XS.iload X46.here hx rfl (hb hby at_164) rfl k) ?_
    show Go p.tables e below s _ _ _ (T46.setTop (mkF m 166 #[.val (.int p1), .val (.int p2), .val (.int p3), .val (.int p4), .val (.int p5), .val (.int (1 : Int32)), .val (.ref b24), .val (.ref b33)] [(.int p5), (.int (3 : Int32)), (.ref b24), (.ref b33)]))
    obtain ⟨_, _, ⟨T48, L48, k48, n48⟩, -, X48, ⟨Lc48, hQ48, l48, y48, z48⟩, st48⟩ := Jvm.LawKit.callS X46 hx (y := (⟨"com/example/rhythmwire/rhythmwire/hl7/MllpFramePinLaw", "slot", "([B[BII)Z"⟩ : MethodName)) hown (mvT hZ (hw _ (List.mem_of_getElem? (i := 10) rfl))) (mvT hZ (hw _ (List.mem_of_getElem? (i := 11) rfl))) (mvT hZ (hw _ (List.mem_of_getElem? (i := 12) rfl))) (mvT hZ (hw _ (List.mem_of_getElem? (i := 13) rfl))) (by decide) (backOf (W := 0) (rm2o l Z a0 hw [] b33 b24 (3 : Int32) p5 kb33 k24 (4 : Int32) (1 : Int32) ([(.int (11 : Int32)), (.int p2.toInt8.toInt32), (.int (28 : Int32)), (.int (13 : Int32))]) ([(.int (p2.toInt8.toInt32))]) T33.heap n0 Zp35 P33_2 Vb24_34 (by decide)) hZ (hw _ (List.mem_of_getElem? (i := 13) rfl)) (hw _ (List.mem_of_getElem? (i := 12) rfl)) (by decide) (by decide)) (g := (mkF m 166 #[.val (.int p1), .val (.int p2), .val (.int p3), .val (.int p4), .val (.int p5), .val (.int (1 : Int32)), .val (.ref b24), .val (.ref b33)] [(.int p5), (.int (3 : Int32)), (.ref b24), (.ref b33)])) rfl (by rw [hml]; rfl) (argsL := [(.ref b33), (.ref b24), (.int (3 : Int32)), (.int p5)]) (rest := []) (lenOf pd__40__91_B_91_BII_41_Z rfl) rfl (by show 2 * 0 + _ ≤ _; exact Nat.le_of_eq rfl) (hb hby at_166) (fun _ _ => ⟨rfl, e46, (by decide : (((((0 + 1) + 1) + 0) + 0) + 0) + 0 ≤ _), (by decide : (((((0 + 1) + 4) + 0) + 0) + 0) + 0 ≤ _)⟩)
    dsimp only [Pt.U, Pt.locs, Pt.cells, Pt.slots] at X48 l48 y48 z48 st48 hQ48
    subst l48 y48 z48
    obtain ⟨rfl, Nq48, e48⟩ := hQ48
    have Np49 := Fr.app Np47 Nq48
    refine Go.on st48 ?_
    show Go p.tables e below s _ _ _ (T48.setTop (mkF m 169 #[.val (.int p1), .val (.int p2), .val (.int p3), .val (.int p4), .val (.int p5), .val (.int (1 : Int32)), .val (.ref b24), .val (.ref b33)] [(.int (1 : Int32))]))
    refine Go.on (fun t k => XS.ifNo X48.here hx rfl (hb hby at_169) rfl ((if0 _ _).trans (feq (by decide : ¬ ((1 : Int32) = (0 : Int32)))).1) k) ?_
    show Go p.tables e below s _ _ _ (T48.setTop (mkF m 172 #[.val (.int p1), .val (.int p2), .val (.int p3), .val (.int p4), .val (.int p5), .val (.int (1 : Int32)), .val (.ref b24), .val (.ref b33)] []))
    refine Go.on (fun t k => XS.iconst X48.here hx rfl (hb hby at_172) k) ?_
    show Go p.tables e below s _ _ _ (T48.setTop (mkF m 173 #[.val (.int p1), .val (.int p2), .val (.int p3), .val (.int p4), .val (.int p5), .val (.int (1 : Int32)), .val (.ref b24), .val (.ref b33)] [(.int (1 : Int32))]))
    refine Go.on (fun t k => XS.goto X48.here hx rfl (pc0 := 173) (pc' := 177) rfl (hb hby at_173) (by decide) (by decide) k) ?_
    show Go p.tables e below s _ _ _ (T48.setTop (mkF m 177 #[.val (.int p1), .val (.int p2), .val (.int p3), .val (.int p4), .val (.int p5), .val (.int (1 : Int32)), .val (.ref b24), .val (.ref b33)] [(.int (1 : Int32))]))
    refine Go.retN X48 hx hlk (t := .boolean) Bd.returns (by simp) (hb hby at_177) (by decide) (by decide) e48 ?_
    exact ⟨rfl, Np49⟩
  · rw [hs1]
    refine Go.on (fun t k => XS.istore X0.here hx rfl (hb hby at_6) rfl (l' := #[.val (.int p1), .val (.int p2), .val (.int p3), .val (.int p4), .val (.int p5), .val (.int (2 : Int32)), .unset, .unset]) rfl k) ?_
    show Go p.tables e below s _ _ _ (s₁.setTop (mkF m 8 #[.val (.int p1), .val (.int p2), .val (.int p3), .val (.int p4), .val (.int p5), .val (.int (2 : Int32)), .unset, .unset] []))
    refine Go.on (fun t k => XS.iload X0.here hx rfl (hb hby at_8) rfl k) ?_
    show Go p.tables e below s _ _ _ (s₁.setTop (mkF m 10 #[.val (.int p1), .val (.int p2), .val (.int p3), .val (.int p4), .val (.int p5), .val (.int (2 : Int32)), .unset, .unset] [(.int (2 : Int32))]))
    obtain ⟨T50, h50, k50, X50, e50, E50, A50, st50⟩ := newP X0 hx hZ (hw _ (List.mem_of_getElem? (i := 1) rfl)) e0 (g := (mkF m 10 #[.val (.int p1), .val (.int p2), .val (.int p3), .val (.int p4), .val (.int p5), .val (.int (2 : Int32)), .unset, .unset] [(.int (2 : Int32))])) rfl (hb hby at_10) rfl (by decide) (cap := 2) (by decide) (by decide) (by decide) (by decide)
    obtain ⟨b50, g50⟩ : ∃ z, z = h0.size := ⟨_, rfl⟩
    rw [← g50] at A50 st50
    have ge51 : n0 ≤ b50 := Nat.le_trans Z0 (Nat.le_of_eq g50.symm)
    have Zp53 := Nat.le_trans Z0 E50.1
    have Vb50_54 : Arv Z h50 b50 k50 .byte (2 : Int32) [(.int (0 : Int32)), (.int (0 : Int32))] (.int (0 : Int32)) := (Arv.new A50 (by decide)).pad (pad_rep [] (.int (0 : Int32)) 2)
    refine Go.on st50 ?_
    show Go p.tables e below s _ _ _ (T50.setTop (mkF m 12 #[.val (.int p1), .val (.int p2), .val (.int p3), .val (.int p4), .val (.int p5), .val (.int (2 : Int32)), .unset, .unset] [(.ref b50)]))
    refine Go.on (fun t k => XS.astore X50.here hx rfl (hb hby at_12) rfl rfl (l' := #[.val (.int p1), .val (.int p2), .val (.int p3), .val (.int p4), .val (.int p5), .val (.int (2 : Int32)), .val (.ref b50), .unset]) rfl k) ?_
    show Go p.tables e below s _ _ _ (T50.setTop (mkF m 14 #[.val (.int p1), .val (.int p2), .val (.int p3), .val (.int p4), .val (.int p5), .val (.int (2 : Int32)), .val (.ref b50), .unset] []))
    refine Go.on (fun t k => XS.iload X50.here hx rfl (hb hby at_14) rfl k) ?_
    show Go p.tables e below s _ _ _ (T50.setTop (mkF m 16 #[.val (.int p1), .val (.int p2), .val (.int p3), .val (.int p4), .val (.int p5), .val (.int (2 : Int32)), .val (.ref b50), .unset] [(.int (2 : Int32))]))
    refine Go.on (fun t k => XS.ifNo X50.here hx rfl (hb hby at_16) rfl ((if0 _ _).trans (tlt (by decide : (0 : Int32) < (2 : Int32))).2.2.2) k) ?_
    show Go p.tables e below s _ _ _ (T50.setTop (mkF m 19 #[.val (.int p1), .val (.int p2), .val (.int p3), .val (.int p4), .val (.int p5), .val (.int (2 : Int32)), .val (.ref b50), .unset] []))
    refine Go.on (fun t k => XS.aload X50.here hx rfl (hb hby at_19) rfl rfl k) ?_
    show Go p.tables e below s _ _ _ (T50.setTop (mkF m 21 #[.val (.int p1), .val (.int p2), .val (.int p3), .val (.int p4), .val (.int p5), .val (.int (2 : Int32)), .val (.ref b50), .unset] [(.ref b50)]))
    refine Go.on (fun t k => XS.iconst X50.here hx rfl (hb hby at_21) k) ?_
    show Go p.tables e below s _ _ _ (T50.setTop (mkF m 22 #[.val (.int p1), .val (.int p2), .val (.int p3), .val (.int p4), .val (.int p5), .val (.int (2 : Int32)), .val (.ref b50), .unset] [(.int (0 : Int32)), (.ref b50)]))
    refine Go.on (fun t k => XS.iloadN X50.here hx rfl (hb hby at_22) rfl k) ?_
    show Go p.tables e below s _ _ _ (T50.setTop (mkF m 23 #[.val (.int p1), .val (.int p2), .val (.int p3), .val (.int p4), .val (.int p5), .val (.int (2 : Int32)), .val (.ref b50), .unset] [(.int p2), (.int (0 : Int32)), (.ref b50)]))
    refine Go.on (fun t k => XS.i2b X50.here hx rfl (hb hby at_23) rfl k) ?_
    show Go p.tables e below s _ _ _ (T50.setTop (mkF m 24 #[.val (.int p1), .val (.int p2), .val (.int p3), .val (.int p4), .val (.int p5), .val (.int (2 : Int32)), .val (.ref b50), .unset] [(.int (p2.toInt8.toInt32)), (.int (0 : Int32)), (.ref b50)]))
    obtain ⟨cl55, Ar55, q55, S55, M55, H55, G55⟩ := id Vb50_54
    have hin55 : ¬ ((0 : Int32) < 0 ∨ cl55.slots.size ≤ ((0 : Int32)).toNatClampNeg) := inb_of S55 ⟨by decide, by decide⟩
    obtain ⟨T55, h55, X55, e55, W55, st55⟩ := stB X50 hx hZ e50 Ar55 (j := (0 : Int32)) hin55 (g := (mkF m 24 #[.val (.int p1), .val (.int p2), .val (.int p3), .val (.int p4), .val (.int p5), .val (.int (2 : Int32)), .val (.ref b50), .unset] [(.int (p2.toInt8.toInt32)), (.int (0 : Int32)), (.ref b50)])) rfl rfl (hb hby at_24)
    rw [own_nb] at W55
    have Vb50_56 : Arv Z h55 b50 k50 .byte (2 : Int32) [(.int (p2.toInt8.toInt32)), (.int (0 : Int32))] (.int (0 : Int32)) := Arv.set Ar55 q55 S55 M55 H55 G55 (fits_nar_byte _) W55 0 rfl (Nat.le_of_ble_eq_true rfl)
    have Zp57 := Nat.le_trans Zp53 (Keep.of_wr W55).1
    have Np58 := Fr.snoc X55 N0 ge51
    refine Go.on st55 ?_
    show Go p.tables e below s _ _ _ (T55.setTop (mkF m 25 #[.val (.int p1), .val (.int p2), .val (.int p3), .val (.int p4), .val (.int p5), .val (.int (2 : Int32)), .val (.ref b50), .unset] []))
    refine Go.on (fun t k => XS.iload X55.here hx rfl (hb hby at_25) rfl k) ?_
    show Go p.tables e below s _ _ _ (T55.setTop (mkF m 27 #[.val (.int p1), .val (.int p2), .val (.int p3), .val (.int p4), .val (.int p5), .val (.int (2 : Int32)), .val (.ref b50), .unset] [(.int (2 : Int32))]))
    refine Go.on (fun t k => XS.iconst X55.here hx rfl (hb hby at_27) k) ?_
    show Go p.tables e below s _ _ _ (T55.setTop (mkF m 28 #[.val (.int p1), .val (.int p2), .val (.int p3), .val (.int p4), .val (.int p5), .val (.int (2 : Int32)), .val (.ref b50), .unset] [(.int (1 : Int32)), (.int (2 : Int32))]))
    refine Go.on (fun t k => XS.icmpNo X55.here hx rfl (hb hby at_28) rfl (tlt (by decide : (1 : Int32) < (2 : Int32))).2.2.2 k) ?_
    show Go p.tables e below s _ _ _ (T55.setTop (mkF m 31 #[.val (.int p1), .val (.int p2), .val (.int p3), .val (.int p4), .val (.int p5), .val (.int (2 : Int32)), .val (.ref b50), .unset] []))
    refine Go.on (fun t k => XS.aload X55.here hx rfl (hb hby at_31) rfl rfl k) ?_
    show Go p.tables e below s _ _ _ (T55.setTop (mkF m 33 #[.val (.int p1), .val (.int p2), .val (.int p3), .val (.int p4), .val (.int p5), .val (.int (2 : Int32)), .val (.ref b50), .unset] [(.ref b50)]))
    refine Go.on (fun t k => XS.iconst X55.here hx rfl (hb hby at_33) k) ?_
    show Go p.tables e below s _ _ _ (T55.setTop (mkF m 34 #[.val (.int p1), .val (.int p2), .val (.int p3), .val (.int p4), .val (.int p5), .val (.int (2 : Int32)), .val (.ref b50), .unset] [(.int (1 : Int32)), (.ref b50)]))
    refine Go.on (fun t k => XS.iloadN X55.here hx rfl (hb hby at_34) rfl k) ?_
    show Go p.tables e below s _ _ _ (T55.setTop (mkF m 35 #[.val (.int p1), .val (.int p2), .val (.int p3), .val (.int p4), .val (.int p5), .val (.int (2 : Int32)), .val (.ref b50), .unset] [(.int p3), (.int (1 : Int32)), (.ref b50)]))
    refine Go.on (fun t k => XS.i2b X55.here hx rfl (hb hby at_35) rfl k) ?_
    show Go p.tables e below s _ _ _ (T55.setTop (mkF m 36 #[.val (.int p1), .val (.int p2), .val (.int p3), .val (.int p4), .val (.int p5), .val (.int (2 : Int32)), .val (.ref b50), .unset] [(.int (p3.toInt8.toInt32)), (.int (1 : Int32)), (.ref b50)]))
    obtain ⟨cl59, Ar59, q59, S59, M59, H59, G59⟩ := id Vb50_56
    have hin59 : ¬ ((1 : Int32) < 0 ∨ cl59.slots.size ≤ ((1 : Int32)).toNatClampNeg) := inb_of S59 ⟨by decide, by decide⟩
    obtain ⟨T59, h59, X59, e59, W59, st59⟩ := stB X55 hx hZ e55 Ar59 (j := (1 : Int32)) hin59 (g := (mkF m 36 #[.val (.int p1), .val (.int p2), .val (.int p3), .val (.int p4), .val (.int p5), .val (.int (2 : Int32)), .val (.ref b50), .unset] [(.int (p3.toInt8.toInt32)), (.int (1 : Int32)), (.ref b50)])) rfl rfl (hb hby at_36)
    rw [own_nb] at W59
    have Vb50_60 : Arv Z h59 b50 k50 .byte (2 : Int32) [(.int (p2.toInt8.toInt32)), (.int (p3.toInt8.toInt32))] (.int (0 : Int32)) := Arv.set Ar59 q59 S59 M59 H59 G59 (fits_nar_byte _) W59 1 rfl (Nat.le_of_ble_eq_true rfl)
    have Zp61 := Nat.le_trans Zp57 (Keep.of_wr W59).1
    have Np62 := Fr.snoc X59 Np58 ge51
    refine Go.on st59 ?_
    show Go p.tables e below s _ _ _ (T59.setTop (mkF m 37 #[.val (.int p1), .val (.int p2), .val (.int p3), .val (.int p4), .val (.int p5), .val (.int (2 : Int32)), .val (.ref b50), .unset] []))
    refine Go.on (fun t k => XS.iload X59.here hx rfl (hb hby at_37) rfl k) ?_
    show Go p.tables e below s _ _ _ (T59.setTop (mkF m 39 #[.val (.int p1), .val (.int p2), .val (.int p3), .val (.int p4), .val (.int p5), .val (.int (2 : Int32)), .val (.ref b50), .unset] [(.int (2 : Int32))]))
    refine Go.on (fun t k => XS.iconst X59.here hx rfl (hb hby at_39) k) ?_
    show Go p.tables e below s _ _ _ (T59.setTop (mkF m 40 #[.val (.int p1), .val (.int p2), .val (.int p3), .val (.int p4), .val (.int p5), .val (.int (2 : Int32)), .val (.ref b50), .unset] [(.int (2 : Int32)), (.int (2 : Int32))]))
    refine Go.on (fun t k => XS.icmpYes X59.here hx rfl (pc0 := 40) (pc' := 49) rfl (hb hby at_40) rfl (flt (by decide : ¬ ((2 : Int32) < (2 : Int32)))).2.2.2 (by decide) (by decide) k) ?_
    show Go p.tables e below s _ _ _ (T59.setTop (mkF m 49 #[.val (.int p1), .val (.int p2), .val (.int p3), .val (.int p4), .val (.int p5), .val (.int (2 : Int32)), .val (.ref b50), .unset] []))
    refine Go.on (fun t k => XS.iload X59.here hx rfl (hb hby at_49) rfl k) ?_
    show Go p.tables e below s _ _ _ (T59.setTop (mkF m 51 #[.val (.int p1), .val (.int p2), .val (.int p3), .val (.int p4), .val (.int p5), .val (.int (2 : Int32)), .val (.ref b50), .unset] [(.int (2 : Int32))]))
    refine Go.on (fun t k => XS.iconst X59.here hx rfl (hb hby at_51) k) ?_
    show Go p.tables e below s _ _ _ (T59.setTop (mkF m 52 #[.val (.int p1), .val (.int p2), .val (.int p3), .val (.int p4), .val (.int p5), .val (.int (2 : Int32)), .val (.ref b50), .unset] [(.int (3 : Int32)), (.int (2 : Int32))]))
    refine Go.on (fun t k => XS.icmpYes X59.here hx rfl (pc0 := 52) (pc' := 62) rfl (hb hby at_52) rfl (flt (by decide : ¬ ((3 : Int32) < (2 : Int32)))).2.2.2 (by decide) (by decide) k) ?_
    show Go p.tables e below s _ _ _ (T59.setTop (mkF m 62 #[.val (.int p1), .val (.int p2), .val (.int p3), .val (.int p4), .val (.int p5), .val (.int (2 : Int32)), .val (.ref b50), .unset] []))
    refine Go.on (fun t k => XS.aload X59.here hx rfl (hb hby at_62) rfl rfl k) ?_
    show Go p.tables e below s _ _ _ (T59.setTop (mkF m 64 #[.val (.int p1), .val (.int p2), .val (.int p3), .val (.int p4), .val (.int p5), .val (.int (2 : Int32)), .val (.ref b50), .unset] [(.ref b50)]))
    obtain ⟨_, _, ⟨T63, L63, k63, n63⟩, -, X63, ⟨Lc63, hQ63, l63, y63, z63⟩, st63⟩ := Jvm.LawKit.callS X59 hx (y := (⟨"com/example/rhythmwire/rhythmwire/hl7/Mllp", "frame", "([B)[B"⟩ : MethodName)) hown (mvT hZ (hw _ (List.mem_of_getElem? (i := 2) rfl))) (mvT hZ (hw _ (List.mem_of_getElem? (i := 3) rfl))) (mvT hZ (hw _ (List.mem_of_getElem? (i := 4) rfl))) (mvT hZ (hw _ (List.mem_of_getElem? (i := 5) rfl))) (by decide) (backOf (W := 0) (rm1_2 l Z a0 hw [] b50 k50 p2.toInt8.toInt32 p3.toInt8.toInt32 h59 n0 Zp61 Vb50_60) hZ (hw _ (List.mem_of_getElem? (i := 5) rfl)) (hw _ (List.mem_of_getElem? (i := 4) rfl)) (by decide) (by decide)) (g := (mkF m 64 #[.val (.int p1), .val (.int p2), .val (.int p3), .val (.int p4), .val (.int p5), .val (.int (2 : Int32)), .val (.ref b50), .unset] [(.ref b50)])) rfl (by rw [hml]; rfl) (argsL := [(.ref b50)]) (rest := []) (lenOf pd__40__91_B_41__91_B rfl) rfl (by show 2 * 0 + _ ≤ _; exact Nat.le_of_eq rfl) (hb hby at_64) (fun _ _ => ⟨rfl, e59, (by decide : (0 + 1) + 1 ≤ _), (by decide : (0 + 2) + 5 ≤ _)⟩)
    dsimp only [Pt.U, Pt.locs, Pt.cells, Pt.slots] at X63 l63 y63 z63 st63 hQ63
    subst l63 y63 z63
    obtain ⟨b63, kb63, rfl, Nq63, Kq63, P63_0, P63_1, P63_2⟩ := hQ63
    have Vb50_64 := Vb50_60.keep Kq63 nin0
    have Zp65 := Nat.le_trans Zp61 Kq63.1
    have ne66 : b50 ≠ b63 := Nat.ne_of_lt (Nat.lt_of_lt_of_le Vb50_60.lt P63_1)
    have Np67 := Fr.app Np62 Nq63
    refine Go.on st63 ?_
    show Go p.tables e below s _ _ _ (T63.setTop (mkF m 67 #[.val (.int p1), .val (.int p2), .val (.int p3), .val (.int p4), .val (.int p5), .val (.int (2 : Int32)), .val (.ref b50), .unset] [(.ref b63)]))
    refine Go.on (fun t k => XS.astore X63.here hx rfl (hb hby at_67) rfl rfl (l' := #[.val (.int p1), .val (.int p2), .val (.int p3), .val (.int p4), .val (.int p5), .val (.int (2 : Int32)), .val (.ref b50), .val (.ref b63)]) rfl k) ?_
    show Go p.tables e below s _ _ _ (T63.setTop (mkF m 69 #[.val (.int p1), .val (.int p2), .val (.int p3), .val (.int p4), .val (.int p5), .val (.int (2 : Int32)), .val (.ref b50), .val (.ref b63)] []))
    refine Go.on (fun t k => XS.aload X63.here hx rfl (hb hby at_69) rfl rfl k) ?_
    show Go p.tables e below s _ _ _ (T63.setTop (mkF m 71 #[.val (.int p1), .val (.int p2), .val (.int p3), .val (.int p4), .val (.int p5), .val (.int (2 : Int32)), .val (.ref b50), .val (.ref b63)] [(.ref b63)]))
    refine Go.on (fun t k => XS.ifnullNo X63.here hx rfl (hb hby at_71) rfl k) ?_
    show Go p.tables e below s _ _ _ (T63.setTop (mkF m 74 #[.val (.int p1), .val (.int p2), .val (.int p3), .val (.int p4), .val (.int p5), .val (.int (2 : Int32)), .val (.ref b50), .val (.ref b63)] []))
    refine Go.on (fun t k => XS.aload X63.here hx rfl (hb hby at_74) rfl rfl k) ?_
    show Go p.tables e below s _ _ _ (T63.setTop (mkF m 76 #[.val (.int p1), .val (.int p2), .val (.int p3), .val (.int p4), .val (.int p5), .val (.int (2 : Int32)), .val (.ref b50), .val (.ref b63)] [(.ref b63)]))
    obtain ⟨cl68, Ar68, q68, S68, M68, H68, G68⟩ := id P63_2
    refine Go.on (fun t k => X63.arraylength hx Ar68.1 (State.isArrayOf_alike hZ.alike Ar68.2.1) (g := (mkF m 76 #[.val (.int p1), .val (.int p2), .val (.int p3), .val (.int p4), .val (.int p5), .val (.int (2 : Int32)), .val (.ref b50), .val (.ref b63)] [(.ref b63)])) rfl rfl (hb hby at_76) t k) ?_
    rw [len_of S68 M68]
    show Go p.tables e below s _ _ _ (T63.setTop (mkF m 77 #[.val (.int p1), .val (.int p2), .val (.int p3), .val (.int p4), .val (.int p5), .val (.int (2 : Int32)), .val (.ref b50), .val (.ref b63)] [(.int (5 : Int32))]))
    refine Go.on (fun t k => XS.iload X63.here hx rfl (hb hby at_77) rfl k) ?_
    show Go p.tables e below s _ _ _ (T63.setTop (mkF m 79 #[.val (.int p1), .val (.int p2), .val (.int p3), .val (.int p4), .val (.int p5), .val (.int (2 : Int32)), .val (.ref b50), .val (.ref b63)] [(.int (2 : Int32)), (.int (5 : Int32))]))
    refine Go.on (fun t k => XS.iconst X63.here hx rfl (hb hby at_79) k) ?_
    show Go p.tables e below s _ _ _ (T63.setTop (mkF m 80 #[.val (.int p1), .val (.int p2), .val (.int p3), .val (.int p4), .val (.int p5), .val (.int (2 : Int32)), .val (.ref b50), .val (.ref b63)] [(.int (3 : Int32)), (.int (2 : Int32)), (.int (5 : Int32))]))
    refine Go.on (fun t k => XS.iadd X63.here hx rfl (hb hby at_80) rfl k) ?_
    show Go p.tables e below s _ _ _ (T63.setTop (mkF m 81 #[.val (.int p1), .val (.int p2), .val (.int p3), .val (.int p4), .val (.int p5), .val (.int (2 : Int32)), .val (.ref b50), .val (.ref b63)] [(.int (5 : Int32)), (.int (5 : Int32))]))
    refine Go.on (fun t k => XS.icmpYes X63.here hx rfl (pc0 := 81) (pc' := 86) rfl (hb hby at_81) rfl (teq (by decide : (5 : Int32) = (5 : Int32))).1 (by decide) (by decide) k) ?_
    show Go p.tables e below s _ _ _ (T63.setTop (mkF m 86 #[.val (.int p1), .val (.int p2), .val (.int p3), .val (.int p4), .val (.int p5), .val (.int (2 : Int32)), .val (.ref b50), .val (.ref b63)] []))
    refine Go.on (fun t k => XS.aload X63.here hx rfl (hb hby at_86) rfl rfl k) ?_
    show Go p.tables e below s _ _ _ (T63.setTop (mkF m 88 #[.val (.int p1), .val (.int p2), .val (.int p3), .val (.int p4), .val (.int p5), .val (.int (2 : Int32)), .val (.ref b50), .val (.ref b63)] [(.ref b63)]))
    refine Go.on (fun t k => XS.iconst X63.here hx rfl (hb hby at_88) k) ?_
    show Go p.tables e below s _ _ _ (T63.setTop (mkF m 89 #[.val (.int p1), .val (.int p2), .val (.int p3), .val (.int p4), .val (.int p5), .val (.int (2 : Int32)), .val (.ref b50), .val (.ref b63)] [(.int (0 : Int32)), (.ref b63)]))
    obtain ⟨cl69, Ar69, q69, S69, M69, H69, G69⟩ := id P63_2
    have hin69 : ¬ ((0 : Int32) < 0 ∨ cl69.slots.size ≤ ((0 : Int32)).toNatClampNeg) := inb_of S69 ⟨by decide, by decide⟩
    have hat69 : cl69.slots[((0 : Int32)).toNatClampNeg]? = some (.int (11 : Int32)) := H69.at hin69 rfl
    refine Go.on (fun t k => X63.baloadBytes hx (j := (0 : Int32)) (v := (.int (11 : Int32))) Ar69.1 (State.isArrayOf_alike hZ.alike Ar69.2.1) Ar69.2.2 hin69 hat69 (g := (mkF m 89 #[.val (.int p1), .val (.int p2), .val (.int p3), .val (.int p4), .val (.int p5), .val (.int (2 : Int32)), .val (.ref b50), .val (.ref b63)] [(.int (0 : Int32)), (.ref b63)])) rfl rfl (hb hby at_89) t k) ?_
    show Go p.tables e below s _ _ _ (T63.setTop (mkF m 90 #[.val (.int p1), .val (.int p2), .val (.int p3), .val (.int p4), .val (.int p5), .val (.int (2 : Int32)), .val (.ref b50), .val (.ref b63)] [(.int (11 : Int32))]))
    refine Go.on (fun t k => XS.bipush X63.here hx rfl (hb hby at_90) k) ?_
    show Go p.tables e below s _ _ _ (T63.setTop (mkF m 92 #[.val (.int p1), .val (.int p2), .val (.int p3), .val (.int p4), .val (.int p5), .val (.int (2 : Int32)), .val (.ref b50), .val (.ref b63)] [(.int (11 : Int32)), (.int (11 : Int32))]))
    refine Go.on (fun t k => XS.icmpYes X63.here hx rfl (pc0 := 92) (pc' := 97) rfl (hb hby at_92) rfl (teq (by decide : (11 : Int32) = (11 : Int32))).1 (by decide) (by decide) k) ?_
    show Go p.tables e below s _ _ _ (T63.setTop (mkF m 97 #[.val (.int p1), .val (.int p2), .val (.int p3), .val (.int p4), .val (.int p5), .val (.int (2 : Int32)), .val (.ref b50), .val (.ref b63)] []))
    refine Go.on (fun t k => XS.aload X63.here hx rfl (hb hby at_97) rfl rfl k) ?_
    show Go p.tables e below s _ _ _ (T63.setTop (mkF m 99 #[.val (.int p1), .val (.int p2), .val (.int p3), .val (.int p4), .val (.int p5), .val (.int (2 : Int32)), .val (.ref b50), .val (.ref b63)] [(.ref b63)]))
    refine Go.on (fun t k => XS.iload X63.here hx rfl (hb hby at_99) rfl k) ?_
    show Go p.tables e below s _ _ _ (T63.setTop (mkF m 101 #[.val (.int p1), .val (.int p2), .val (.int p3), .val (.int p4), .val (.int p5), .val (.int (2 : Int32)), .val (.ref b50), .val (.ref b63)] [(.int (2 : Int32)), (.ref b63)]))
    refine Go.on (fun t k => XS.iconst X63.here hx rfl (hb hby at_101) k) ?_
    show Go p.tables e below s _ _ _ (T63.setTop (mkF m 102 #[.val (.int p1), .val (.int p2), .val (.int p3), .val (.int p4), .val (.int p5), .val (.int (2 : Int32)), .val (.ref b50), .val (.ref b63)] [(.int (1 : Int32)), (.int (2 : Int32)), (.ref b63)]))
    refine Go.on (fun t k => XS.iadd X63.here hx rfl (hb hby at_102) rfl k) ?_
    show Go p.tables e below s _ _ _ (T63.setTop (mkF m 103 #[.val (.int p1), .val (.int p2), .val (.int p3), .val (.int p4), .val (.int p5), .val (.int (2 : Int32)), .val (.ref b50), .val (.ref b63)] [(.int (3 : Int32)), (.ref b63)]))
    obtain ⟨cl70, Ar70, q70, S70, M70, H70, G70⟩ := id P63_2
    have hin70 : ¬ ((3 : Int32) < 0 ∨ cl70.slots.size ≤ ((3 : Int32)).toNatClampNeg) := inb_of S70 ⟨by decide, by decide⟩
    have hat70 : cl70.slots[((3 : Int32)).toNatClampNeg]? = some (.int (28 : Int32)) := H70.at hin70 rfl
    refine Go.on (fun t k => X63.baloadBytes hx (j := (3 : Int32)) (v := (.int (28 : Int32))) Ar70.1 (State.isArrayOf_alike hZ.alike Ar70.2.1) Ar70.2.2 hin70 hat70 (g := (mkF m 103 #[.val (.int p1), .val (.int p2), .val (.int p3), .val (.int p4), .val (.int p5), .val (.int (2 : Int32)), .val (.ref b50), .val (.ref b63)] [(.int (3 : Int32)), (.ref b63)])) rfl rfl (hb hby at_103) t k) ?_
    show Go p.tables e below s _ _ _ (T63.setTop (mkF m 104 #[.val (.int p1), .val (.int p2), .val (.int p3), .val (.int p4), .val (.int p5), .val (.int (2 : Int32)), .val (.ref b50), .val (.ref b63)] [(.int (28 : Int32))]))
    refine Go.on (fun t k => XS.bipush X63.here hx rfl (hb hby at_104) k) ?_
    show Go p.tables e below s _ _ _ (T63.setTop (mkF m 106 #[.val (.int p1), .val (.int p2), .val (.int p3), .val (.int p4), .val (.int p5), .val (.int (2 : Int32)), .val (.ref b50), .val (.ref b63)] [(.int (28 : Int32)), (.int (28 : Int32))]))
    refine Go.on (fun t k => XS.icmpNo X63.here hx rfl (hb hby at_106) rfl (teq (by decide : (28 : Int32) = (28 : Int32))).2 k) ?_
    show Go p.tables e below s _ _ _ (T63.setTop (mkF m 109 #[.val (.int p1), .val (.int p2), .val (.int p3), .val (.int p4), .val (.int p5), .val (.int (2 : Int32)), .val (.ref b50), .val (.ref b63)] []))
    refine Go.on (fun t k => XS.aload X63.here hx rfl (hb hby at_109) rfl rfl k) ?_
    show Go p.tables e below s _ _ _ (T63.setTop (mkF m 111 #[.val (.int p1), .val (.int p2), .val (.int p3), .val (.int p4), .val (.int p5), .val (.int (2 : Int32)), .val (.ref b50), .val (.ref b63)] [(.ref b63)]))
    refine Go.on (fun t k => XS.iload X63.here hx rfl (hb hby at_111) rfl k) ?_
    show Go p.tables e below s _ _ _ (T63.setTop (mkF m 113 #[.val (.int p1), .val (.int p2), .val (.int p3), .val (.int p4), .val (.int p5), .val (.int (2 : Int32)), .val (.ref b50), .val (.ref b63)] [(.int (2 : Int32)), (.ref b63)]))
    refine Go.on (fun t k => XS.iconst X63.here hx rfl (hb hby at_113) k) ?_
    show Go p.tables e below s _ _ _ (T63.setTop (mkF m 114 #[.val (.int p1), .val (.int p2), .val (.int p3), .val (.int p4), .val (.int p5), .val (.int (2 : Int32)), .val (.ref b50), .val (.ref b63)] [(.int (2 : Int32)), (.int (2 : Int32)), (.ref b63)]))
    refine Go.on (fun t k => XS.iadd X63.here hx rfl (hb hby at_114) rfl k) ?_
    show Go p.tables e below s _ _ _ (T63.setTop (mkF m 115 #[.val (.int p1), .val (.int p2), .val (.int p3), .val (.int p4), .val (.int p5), .val (.int (2 : Int32)), .val (.ref b50), .val (.ref b63)] [(.int (4 : Int32)), (.ref b63)]))
    obtain ⟨cl71, Ar71, q71, S71, M71, H71, G71⟩ := id P63_2
    have hin71 : ¬ ((4 : Int32) < 0 ∨ cl71.slots.size ≤ ((4 : Int32)).toNatClampNeg) := inb_of S71 ⟨by decide, by decide⟩
    have hat71 : cl71.slots[((4 : Int32)).toNatClampNeg]? = some (.int (13 : Int32)) := H71.at hin71 rfl
    refine Go.on (fun t k => X63.baloadBytes hx (j := (4 : Int32)) (v := (.int (13 : Int32))) Ar71.1 (State.isArrayOf_alike hZ.alike Ar71.2.1) Ar71.2.2 hin71 hat71 (g := (mkF m 115 #[.val (.int p1), .val (.int p2), .val (.int p3), .val (.int p4), .val (.int p5), .val (.int (2 : Int32)), .val (.ref b50), .val (.ref b63)] [(.int (4 : Int32)), (.ref b63)])) rfl rfl (hb hby at_115) t k) ?_
    show Go p.tables e below s _ _ _ (T63.setTop (mkF m 116 #[.val (.int p1), .val (.int p2), .val (.int p3), .val (.int p4), .val (.int p5), .val (.int (2 : Int32)), .val (.ref b50), .val (.ref b63)] [(.int (13 : Int32))]))
    refine Go.on (fun t k => XS.bipush X63.here hx rfl (hb hby at_116) k) ?_
    show Go p.tables e below s _ _ _ (T63.setTop (mkF m 118 #[.val (.int p1), .val (.int p2), .val (.int p3), .val (.int p4), .val (.int p5), .val (.int (2 : Int32)), .val (.ref b50), .val (.ref b63)] [(.int (13 : Int32)), (.int (13 : Int32))]))
    refine Go.on (fun t k => XS.icmpYes X63.here hx rfl (pc0 := 118) (pc' := 123) rfl (hb hby at_118) rfl (teq (by decide : (13 : Int32) = (13 : Int32))).1 (by decide) (by decide) k) ?_
    show Go p.tables e below s _ _ _ (T63.setTop (mkF m 123 #[.val (.int p1), .val (.int p2), .val (.int p3), .val (.int p4), .val (.int p5), .val (.int (2 : Int32)), .val (.ref b50), .val (.ref b63)] []))
    refine Go.on (fun t k => XS.aload X63.here hx rfl (hb hby at_123) rfl rfl k) ?_
    show Go p.tables e below s _ _ _ (T63.setTop (mkF m 125 #[.val (.int p1), .val (.int p2), .val (.int p3), .val (.int p4), .val (.int p5), .val (.int (2 : Int32)), .val (.ref b50), .val (.ref b63)] [(.ref b63)]))
    refine Go.on (fun t k => XS.aload X63.here hx rfl (hb hby at_125) rfl rfl k) ?_
    show Go p.tables e below s _ _ _ (T63.setTop (mkF m 127 #[.val (.int p1), .val (.int p2), .val (.int p3), .val (.int p4), .val (.int p5), .val (.int (2 : Int32)), .val (.ref b50), .val (.ref b63)] [(.ref b50), (.ref b63)]))
    refine Go.on (fun t k => XS.iconst X63.here hx rfl (hb hby at_127) k) ?_
    show Go p.tables e below s _ _ _ (T63.setTop (mkF m 128 #[.val (.int p1), .val (.int p2), .val (.int p3), .val (.int p4), .val (.int p5), .val (.int (2 : Int32)), .val (.ref b50), .val (.ref b63)] [(.int (0 : Int32)), (.ref b50), (.ref b63)]))
    refine Go.on (fun t k => XS.iloadN X63.here hx rfl (hb hby at_128) rfl k) ?_
    show Go p.tables e below s _ _ _ (T63.setTop (mkF m 129 #[.val (.int p1), .val (.int p2), .val (.int p3), .val (.int p4), .val (.int p5), .val (.int (2 : Int32)), .val (.ref b50), .val (.ref b63)] [(.int p2), (.int (0 : Int32)), (.ref b50), (.ref b63)]))
    obtain ⟨_, _, ⟨T72, L72, k72, n72⟩, -, X72, ⟨Lc72, hQ72, l72, y72, z72⟩, st72⟩ := Jvm.LawKit.callS X63 hx (y := (⟨"com/example/rhythmwire/rhythmwire/hl7/MllpFramePinLaw", "slot", "([B[BII)Z"⟩ : MethodName)) hown (mvT hZ (hw _ (List.mem_of_getElem? (i := 10) rfl))) (mvT hZ (hw _ (List.mem_of_getElem? (i := 11) rfl))) (mvT hZ (hw _ (List.mem_of_getElem? (i := 12) rfl))) (mvT hZ (hw _ (List.mem_of_getElem? (i := 13) rfl))) (by decide) (backOf (W := 0) (rm2i l Z a0 hw [] b63 b50 (0 : Int32) p2 kb63 k50 (5 : Int32) (2 : Int32) ([(.int (11 : Int32)), (.int p2.toInt8.toInt32), (.int p3.toInt8.toInt32), (.int (28 : Int32)), (.int (13 : Int32))]) ([(.int (p2.toInt8.toInt32)), (.int (p3.toInt8.toInt32))]) T63.heap n0 Zp65 P63_2 Vb50_64 ⟨by decide, by decide⟩ ⟨by decide, by decide⟩ rfl rfl) hZ (hw _ (List.mem_of_getElem? (i := 13) rfl)) (hw _ (List.mem_of_getElem? (i := 12) rfl)) (by decide) (by decide)) (g := (mkF m 129 #[.val (.int p1), .val (.int p2), .val (.int p3), .val (.int p4), .val (.int p5), .val (.int (2 : Int32)), .val (.ref b50), .val (.ref b63)] [(.int p2), (.int (0 : Int32)), (.ref b50), (.ref b63)])) rfl (by rw [hml]; rfl) (argsL := [(.ref b63), (.ref b50), (.int (0 : Int32)), (.int p2)]) (rest := []) (lenOf pd__40__91_B_91_BII_41_Z rfl) rfl (by show 2 * 0 + _ ≤ _; exact Nat.le_of_eq rfl) (hb hby at_129) (fun _ _ => ⟨rfl, rfl, (by decide : ((0 + 1) + 1) + 0 ≤ _), (by decide : ((0 + 2) + 5) + 0 ≤ _)⟩)
    dsimp only [Pt.U, Pt.locs, Pt.cells, Pt.slots] at X72 l72 y72 z72 st72 hQ72
    subst l72 y72 z72
    obtain ⟨rfl, Nq72, e72⟩ := hQ72
    have Np73 := Fr.app Np67 Nq72
    refine Go.on st72 ?_
    show Go p.tables e below s _ _ _ (T72.setTop (mkF m 132 #[.val (.int p1), .val (.int p2), .val (.int p3), .val (.int p4), .val (.int p5), .val (.int (2 : Int32)), .val (.ref b50), .val (.ref b63)] [(.int (1 : Int32))]))
    refine Go.on (fun t k => XS.ifNo X72.here hx rfl (hb hby at_132) rfl ((if0 _ _).trans (feq (by decide : ¬ ((1 : Int32) = (0 : Int32)))).1) k) ?_
    show Go p.tables e below s _ _ _ (T72.setTop (mkF m 135 #[.val (.int p1), .val (.int p2), .val (.int p3), .val (.int p4), .val (.int p5), .val (.int (2 : Int32)), .val (.ref b50), .val (.ref b63)] []))
    refine Go.on (fun t k => XS.aload X72.here hx rfl (hb hby at_135) rfl rfl k) ?_
    show Go p.tables e below s _ _ _ (T72.setTop (mkF m 137 #[.val (.int p1), .val (.int p2), .val (.int p3), .val (.int p4), .val (.int p5), .val (.int (2 : Int32)), .val (.ref b50), .val (.ref b63)] [(.ref b63)]))
    refine Go.on (fun t k => XS.aload X72.here hx rfl (hb hby at_137) rfl rfl k) ?_
    show Go p.tables e below s _ _ _ (T72.setTop (mkF m 139 #[.val (.int p1), .val (.int p2), .val (.int p3), .val (.int p4), .val (.int p5), .val (.int (2 : Int32)), .val (.ref b50), .val (.ref b63)] [(.ref b50), (.ref b63)]))
    refine Go.on (fun t k => XS.iconst X72.here hx rfl (hb hby at_139) k) ?_
    show Go p.tables e below s _ _ _ (T72.setTop (mkF m 140 #[.val (.int p1), .val (.int p2), .val (.int p3), .val (.int p4), .val (.int p5), .val (.int (2 : Int32)), .val (.ref b50), .val (.ref b63)] [(.int (1 : Int32)), (.ref b50), (.ref b63)]))
    refine Go.on (fun t k => XS.iloadN X72.here hx rfl (hb hby at_140) rfl k) ?_
    show Go p.tables e below s _ _ _ (T72.setTop (mkF m 141 #[.val (.int p1), .val (.int p2), .val (.int p3), .val (.int p4), .val (.int p5), .val (.int (2 : Int32)), .val (.ref b50), .val (.ref b63)] [(.int p3), (.int (1 : Int32)), (.ref b50), (.ref b63)]))
    obtain ⟨_, _, ⟨T74, L74, k74, n74⟩, -, X74, ⟨Lc74, hQ74, l74, y74, z74⟩, st74⟩ := Jvm.LawKit.callS X72 hx (y := (⟨"com/example/rhythmwire/rhythmwire/hl7/MllpFramePinLaw", "slot", "([B[BII)Z"⟩ : MethodName)) hown (mvT hZ (hw _ (List.mem_of_getElem? (i := 10) rfl))) (mvT hZ (hw _ (List.mem_of_getElem? (i := 11) rfl))) (mvT hZ (hw _ (List.mem_of_getElem? (i := 12) rfl))) (mvT hZ (hw _ (List.mem_of_getElem? (i := 13) rfl))) (by decide) (backOf (W := 0) (rm2i l Z a0 hw [] b63 b50 (1 : Int32) p3 kb63 k50 (5 : Int32) (2 : Int32) ([(.int (11 : Int32)), (.int p2.toInt8.toInt32), (.int p3.toInt8.toInt32), (.int (28 : Int32)), (.int (13 : Int32))]) ([(.int (p2.toInt8.toInt32)), (.int (p3.toInt8.toInt32))]) T63.heap n0 Zp65 P63_2 Vb50_64 ⟨by decide, by decide⟩ ⟨by decide, by decide⟩ rfl rfl) hZ (hw _ (List.mem_of_getElem? (i := 13) rfl)) (hw _ (List.mem_of_getElem? (i := 12) rfl)) (by decide) (by decide)) (g := (mkF m 141 #[.val (.int p1), .val (.int p2), .val (.int p3), .val (.int p4), .val (.int p5), .val (.int (2 : Int32)), .val (.ref b50), .val (.ref b63)] [(.int p3), (.int (1 : Int32)), (.ref b50), (.ref b63)])) rfl (by rw [hml]; rfl) (argsL := [(.ref b63), (.ref b50), (.int (1 : Int32)), (.int p3)]) (rest := []) (lenOf pd__40__91_B_91_BII_41_Z rfl) rfl (by show 2 * 0 + _ ≤ _; exact Nat.le_of_eq rfl) (hb hby at_141) (fun _ _ => ⟨rfl, e72, (by decide : (((0 + 1) + 1) + 0) + 0 ≤ _), (by decide : (((0 + 2) + 5) + 0) + 0 ≤ _)⟩)
    dsimp only [Pt.U, Pt.locs, Pt.cells, Pt.slots] at X74 l74 y74 z74 st74 hQ74
    subst l74 y74 z74
    obtain ⟨rfl, Nq74, e74⟩ := hQ74
    have Np75 := Fr.app Np73 Nq74
    refine Go.on st74 ?_
    show Go p.tables e below s _ _ _ (T74.setTop (mkF m 144 #[.val (.int p1), .val (.int p2), .val (.int p3), .val (.int p4), .val (.int p5), .val (.int (2 : Int32)), .val (.ref b50), .val (.ref b63)] [(.int (1 : Int32))]))
    refine Go.on (fun t k => XS.ifNo X74.here hx rfl (hb hby at_144) rfl ((if0 _ _).trans (feq (by decide : ¬ ((1 : Int32) = (0 : Int32)))).1) k) ?_
    show Go p.tables e below s _ _ _ (T74.setTop (mkF m 147 #[.val (.int p1), .val (.int p2), .val (.int p3), .val (.int p4), .val (.int p5), .val (.int (2 : Int32)), .val (.ref b50), .val (.ref b63)] []))
    refine Go.on (fun t k => XS.aload X74.here hx rfl (hb hby at_147) rfl rfl k) ?_
    show Go p.tables e below s _ _ _ (T74.setTop (mkF m 149 #[.val (.int p1), .val (.int p2), .val (.int p3), .val (.int p4), .val (.int p5), .val (.int (2 : Int32)), .val (.ref b50), .val (.ref b63)] [(.ref b63)]))
    refine Go.on (fun t k => XS.aload X74.here hx rfl (hb hby at_149) rfl rfl k) ?_
    show Go p.tables e below s _ _ _ (T74.setTop (mkF m 151 #[.val (.int p1), .val (.int p2), .val (.int p3), .val (.int p4), .val (.int p5), .val (.int (2 : Int32)), .val (.ref b50), .val (.ref b63)] [(.ref b50), (.ref b63)]))
    refine Go.on (fun t k => XS.iconst X74.here hx rfl (hb hby at_151) k) ?_
    show Go p.tables e below s _ _ _ (T74.setTop (mkF m 152 #[.val (.int p1), .val (.int p2), .val (.int p3), .val (.int p4), .val (.int p5), .val (.int (2 : Int32)), .val (.ref b50), .val (.ref b63)] [(.int (2 : Int32)), (.ref b50), (.ref b63)]))
    refine Go.on (fun t k => XS.iloadN X74.here hx rfl (hb hby at_152) rfl k) ?_
    show Go p.tables e below s _ _ _ (T74.setTop (mkF m 153 #[.val (.int p1), .val (.int p2), .val (.int p3), .val (.int p4), .val (.int p5), .val (.int (2 : Int32)), .val (.ref b50), .val (.ref b63)] [(.int p4), (.int (2 : Int32)), (.ref b50), (.ref b63)]))
    obtain ⟨_, _, ⟨T76, L76, k76, n76⟩, -, X76, ⟨Lc76, hQ76, l76, y76, z76⟩, st76⟩ := Jvm.LawKit.callS X74 hx (y := (⟨"com/example/rhythmwire/rhythmwire/hl7/MllpFramePinLaw", "slot", "([B[BII)Z"⟩ : MethodName)) hown (mvT hZ (hw _ (List.mem_of_getElem? (i := 10) rfl))) (mvT hZ (hw _ (List.mem_of_getElem? (i := 11) rfl))) (mvT hZ (hw _ (List.mem_of_getElem? (i := 12) rfl))) (mvT hZ (hw _ (List.mem_of_getElem? (i := 13) rfl))) (by decide) (backOf (W := 0) (rm2o l Z a0 hw [] b63 b50 (2 : Int32) p4 kb63 k50 (5 : Int32) (2 : Int32) ([(.int (11 : Int32)), (.int p2.toInt8.toInt32), (.int p3.toInt8.toInt32), (.int (28 : Int32)), (.int (13 : Int32))]) ([(.int (p2.toInt8.toInt32)), (.int (p3.toInt8.toInt32))]) T63.heap n0 Zp65 P63_2 Vb50_64 (by decide)) hZ (hw _ (List.mem_of_getElem? (i := 13) rfl)) (hw _ (List.mem_of_getElem? (i := 12) rfl)) (by decide) (by decide)) (g := (mkF m 153 #[.val (.int p1), .val (.int p2), .val (.int p3), .val (.int p4), .val (.int p5), .val (.int (2 : Int32)), .val (.ref b50), .val (.ref b63)] [(.int p4), (.int (2 : Int32)), (.ref b50), (.ref b63)])) rfl (by rw [hml]; rfl) (argsL := [(.ref b63), (.ref b50), (.int (2 : Int32)), (.int p4)]) (rest := []) (lenOf pd__40__91_B_91_BII_41_Z rfl) rfl (by show 2 * 0 + _ ≤ _; exact Nat.le_of_eq rfl) (hb hby at_153) (fun _ _ => ⟨rfl, e74, (by decide : ((((0 + 1) + 1) + 0) + 0) + 0 ≤ _), (by decide : ((((0 + 2) + 5) + 0) + 0) + 0 ≤ _)⟩)
    dsimp only [Pt.U, Pt.locs, Pt.cells, Pt.slots] at X76 l76 y76 z76 st76 hQ76
    subst l76 y76 z76
    obtain ⟨rfl, Nq76, e76⟩ := hQ76
    have Np77 := Fr.app Np75 Nq76
    refine Go.on st76 ?_
    show Go p.tables e below s _ _ _ (T76.setTop (mkF m 156 #[.val (.int p1), .val (.int p2), .val (.int p3), .val (.int p4), .val (.int p5), .val (.int (2 : Int32)), .val (.ref b50), .val (.ref b63)] [(.int (1 : Int32))]))
    refine Go.on (fun t k => XS.ifNo X76.here hx rfl (hb hby at_156) rfl ((if0 _ _).trans (feq (by decide : ¬ ((1 : Int32) = (0 : Int32)))).1) k) ?_
    show Go p.tables e below s _ _ _ (T76.setTop (mkF m 159 #[.val (.int p1), .val (.int p2), .val (.int p3), .val (.int p4), .val (.int p5), .val (.int (2 : Int32)), .val (.ref b50), .val (.ref b63)] []))
    refine Go.on (fun t k => XS.aload X76.here hx rfl (hb hby at_159) rfl rfl k) ?_
    show Go p.tables e below s _ _ _ (T76.setTop (mkF m 161 #[.val (.int p1), .val (.int p2), .val (.int p3), .val (.int p4), .val (.int p5), .val (.int (2 : Int32)), .val (.ref b50), .val (.ref b63)] [(.ref b63)]))
    refine Go.on (fun t k => XS.aload X76.here hx rfl (hb hby at_161) rfl rfl k) ?_
    show Go p.tables e below s _ _ _ (T76.setTop (mkF m 163 #[.val (.int p1), .val (.int p2), .val (.int p3), .val (.int p4), .val (.int p5), .val (.int (2 : Int32)), .val (.ref b50), .val (.ref b63)] [(.ref b50), (.ref b63)]))
    refine Go.on (fun t k => XS.iconst X76.here hx rfl (hb hby at_163) k) ?_
    show Go p.tables e below s _ _ _ (T76.setTop (mkF m 164 #[.val (.int p1), .val (.int p2), .val (.int p3), .val (.int p4), .val (.int p5), .val (.int (2 : Int32)), .val (.ref b50), .val (.ref b63)] [(.int (3 : Int32)), (.ref b50), (.ref b63)]))
    refine Go.on (fun t k => XS.iload X76.here hx rfl (hb hby at_164) rfl k) ?_
    show Go p.tables e below s _ _ _ (T76.setTop (mkF m 166 #[.val (.int p1), .val (.int p2), .val (.int p3), .val (.int p4), .val (.int p5), .val (.int (2 : Int32)), .val (.ref b50), .val (.ref b63)] [(.int p5), (.int (3 : Int32)), (.ref b50), (.ref b63)]))
    obtain ⟨_, _, ⟨T78, L78, k78, n78⟩, -, X78, ⟨Lc78, hQ78, l78, y78, z78⟩, st78⟩ := Jvm.LawKit.callS X76 hx (y := (⟨"com/example/rhythmwire/rhythmwire/hl7/MllpFramePinLaw", "slot", "([B[BII)Z"⟩ : MethodName)) hown (mvT hZ (hw _ (List.mem_of_getElem? (i := 10) rfl))) (mvT hZ (hw _ (List.mem_of_getElem? (i := 11) rfl))) (mvT hZ (hw _ (List.mem_of_getElem? (i := 12) rfl))) (mvT hZ (hw _ (List.mem_of_getElem? (i := 13) rfl))) (by decide) (backOf (W := 0) (rm2o l Z a0 hw [] b63 b50 (3 : Int32) p5 kb63 k50 (5 : Int32) (2 : Int32) ([(.int (11 : Int32)), (.int p2.toInt8.toInt32), (.int p3.toInt8.toInt32), (.int (28 : Int32)), (.int (13 : Int32))]) ([(.int (p2.toInt8.toInt32)), (.int (p3.toInt8.toInt32))]) T63.heap n0 Zp65 P63_2 Vb50_64 (by decide)) hZ (hw _ (List.mem_of_getElem? (i := 13) rfl)) (hw _ (List.mem_of_getElem? (i := 12) rfl)) (by decide) (by decide)) (g := (mkF m 166 #[.val (.int p1), .val (.int p2), .val (.int p3), .val (.int p4), .val (.int p5), .val (.int (2 : Int32)), .val (.ref b50), .val (.ref b63)] [(.int p5), (.int (3 : Int32)), (.ref b50), (.ref b63)])) rfl (by rw [hml]; rfl) (argsL := [(.ref b63), (.ref b50), (.int (3 : Int32)), (.int p5)]) (rest := []) (lenOf pd__40__91_B_91_BII_41_Z rfl) rfl (by show 2 * 0 + _ ≤ _; exact Nat.le_of_eq rfl) (hb hby at_166) (fun _ _ => ⟨rfl, e76, (by decide : (((((0 + 1) + 1) + 0) + 0) + 0) + 0 ≤ _), (by decide : (((((0 + 2) + 5) + 0) + 0) + 0) + 0 ≤ _)⟩)
    dsimp only [Pt.U, Pt.locs, Pt.cells, Pt.slots] at X78 l78 y78 z78 st78 hQ78
    subst l78 y78 z78
    obtain ⟨rfl, Nq78, e78⟩ := hQ78
    have Np79 := Fr.app Np77 Nq78
    refine Go.on st78 ?_
    show Go p.tables e below s _ _ _ (T78.setTop (mkF m 169 #[.val (.int p1), .val (.int p2), .val (.int p3), .val (.int p4), .val (.int p5), .val (.int (2 : Int32)), .val (.ref b50), .val (.ref b63)] [(.int (1 : Int32))]))
    refine Go.on (fun t k => XS.ifNo X78.here hx rfl (hb hby at_169) rfl ((if0 _ _).trans (feq (by decide : ¬ ((1 : Int32) = (0 : Int32)))).1) k) ?_
    show Go p.tables e below s _ _ _ (T78.setTop (mkF m 172 #[.val (.int p1), .val (.int p2), .val (.int p3), .val (.int p4), .val (.int p5), .val (.int (2 : Int32)), .val (.ref b50), .val (.ref b63)] []))
    refine Go.on (fun t k => XS.iconst X78.here hx rfl (hb hby at_172) k) ?_
    show Go p.tables e below s _ _ _ (T78.setTop (mkF m 173 #[.val (.int p1), .val (.int p2), .val (.int p3), .val (.int p4), .val (.int p5), .val (.int (2 : Int32)), .val (.ref b50), .val (.ref b63)] [(.int (1 : Int32))]))
    refine Go.on (fun t k => XS.goto X78.here hx rfl (pc0 := 173) (pc' := 177) rfl (hb hby at_173) (by decide) (by decide) k) ?_
    show Go p.tables e below s _ _ _ (T78.setTop (mkF m 177 #[.val (.int p1), .val (.int p2), .val (.int p3), .val (.int p4), .val (.int p5), .val (.int (2 : Int32)), .val (.ref b50), .val (.ref b63)] [(.int (1 : Int32))]))
    refine Go.retN X78 hx hlk (t := .boolean) Bd.returns (by simp) (hb hby at_177) (by decide) (by decide) e78 ?_
    exact ⟨rfl, Np79⟩
  · rw [hs1]
    refine Go.on (fun t k => XS.istore X0.here hx rfl (hb hby at_6) rfl (l' := #[.val (.int p1), .val (.int p2), .val (.int p3), .val (.int p4), .val (.int p5), .val (.int (3 : Int32)), .unset, .unset]) rfl k) ?_
    show Go p.tables e below s _ _ _ (s₁.setTop (mkF m 8 #[.val (.int p1), .val (.int p2), .val (.int p3), .val (.int p4), .val (.int p5), .val (.int (3 : Int32)), .unset, .unset] []))
    refine Go.on (fun t k => XS.iload X0.here hx rfl (hb hby at_8) rfl k) ?_
    show Go p.tables e below s _ _ _ (s₁.setTop (mkF m 10 #[.val (.int p1), .val (.int p2), .val (.int p3), .val (.int p4), .val (.int p5), .val (.int (3 : Int32)), .unset, .unset] [(.int (3 : Int32))]))
    obtain ⟨T80, h80, k80, X80, e80, E80, A80, st80⟩ := newP X0 hx hZ (hw _ (List.mem_of_getElem? (i := 1) rfl)) e0 (g := (mkF m 10 #[.val (.int p1), .val (.int p2), .val (.int p3), .val (.int p4), .val (.int p5), .val (.int (3 : Int32)), .unset, .unset] [(.int (3 : Int32))])) rfl (hb hby at_10) rfl (by decide) (cap := 3) (by decide) (by decide) (by decide) (by decide)
    obtain ⟨b80, g80⟩ : ∃ z, z = h0.size := ⟨_, rfl⟩
    rw [← g80] at A80 st80
    have ge81 : n0 ≤ b80 := Nat.le_trans Z0 (Nat.le_of_eq g80.symm)
    have Zp83 := Nat.le_trans Z0 E80.1
    have Vb80_84 : Arv Z h80 b80 k80 .byte (3 : Int32) [(.int (0 : Int32)), (.int (0 : Int32)), (.int (0 : Int32))] (.int (0 : Int32)) := (Arv.new A80 (by decide)).pad (pad_rep [] (.int (0 : Int32)) 3)
    refine Go.on st80 ?_
    show Go p.tables e below s _ _ _ (T80.setTop (mkF m 12 #[.val (.int p1), .val (.int p2), .val (.int p3), .val (.int p4), .val (.int p5), .val (.int (3 : Int32)), .unset, .unset] [(.ref b80)]))
    refine Go.on (fun t k => XS.astore X80.here hx rfl (hb hby at_12) rfl rfl (l' := #[.val (.int p1), .val (.int p2), .val (.int p3), .val (.int p4), .val (.int p5), .val (.int (3 : Int32)), .val (.ref b80), .unset]) rfl k) ?_
    show Go p.tables e below s _ _ _ (T80.setTop (mkF m 14 #[.val (.int p1), .val (.int p2), .val (.int p3), .val (.int p4), .val (.int p5), .val (.int (3 : Int32)), .val (.ref b80), .unset] []))
    refine Go.on (fun t k => XS.iload X80.here hx rfl (hb hby at_14) rfl k) ?_
    show Go p.tables e below s _ _ _ (T80.setTop (mkF m 16 #[.val (.int p1), .val (.int p2), .val (.int p3), .val (.int p4), .val (.int p5), .val (.int (3 : Int32)), .val (.ref b80), .unset] [(.int (3 : Int32))]))
    refine Go.on (fun t k => XS.ifNo X80.here hx rfl (hb hby at_16) rfl ((if0 _ _).trans (tlt (by decide : (0 : Int32) < (3 : Int32))).2.2.2) k) ?_
    show Go p.tables e below s _ _ _ (T80.setTop (mkF m 19 #[.val (.int p1), .val (.int p2), .val (.int p3), .val (.int p4), .val (.int p5), .val (.int (3 : Int32)), .val (.ref b80), .unset] []))
    refine Go.on (fun t k => XS.aload X80.here hx rfl (hb hby at_19) rfl rfl k) ?_
    show Go p.tables e below s _ _ _ (T80.setTop (mkF m 21 #[.val (.int p1), .val (.int p2), .val (.int p3), .val (.int p4), .val (.int p5), .val (.int (3 : Int32)), .val (.ref b80), .unset] [(.ref b80)]))
    refine Go.on (fun t k => XS.iconst X80.here hx rfl (hb hby at_21) k) ?_
    show Go p.tables e below s _ _ _ (T80.setTop (mkF m 22 #[.val (.int p1), .val (.int p2), .val (.int p3), .val (.int p4), .val (.int p5), .val (.int (3 : Int32)), .val (.ref b80), .unset] [(.int (0 : Int32)), (.ref b80)]))
    refine Go.on (fun t k => XS.iloadN X80.here hx rfl (hb hby at_22) rfl k) ?_
    show Go p.tables e below s _ _ _ (T80.setTop (mkF m 23 #[.val (.int p1), .val (.int p2), .val (.int p3), .val (.int p4), .val (.int p5), .val (.int (3 : Int32)), .val (.ref b80), .unset] [(.int p2), (.int (0 : Int32)), (.ref b80)]))
    refine Go.on (fun t k => XS.i2b X80.here hx rfl (hb hby at_23) rfl k) ?_
    show Go p.tables e below s _ _ _ (T80.setTop (mkF m 24 #[.val (.int p1), .val (.int p2), .val (.int p3), .val (.int p4), .val (.int p5), .val (.int (3 : Int32)), .val (.ref b80), .unset] [(.int (p2.toInt8.toInt32)), (.int (0 : Int32)), (.ref b80)]))
    obtain ⟨cl85, Ar85, q85, S85, M85, H85, G85⟩ := id Vb80_84
    have hin85 : ¬ ((0 : Int32) < 0 ∨ cl85.slots.size ≤ ((0 : Int32)).toNatClampNeg) := inb_of S85 ⟨by decide, by decide⟩
    obtain ⟨T85, h85, X85, e85, W85, st85⟩ := stB X80 hx hZ e80 Ar85 (j := (0 : Int32)) hin85 (g := (mkF m 24 #[.val (.int p1), .val (.int p2), .val (.int p3), .val (.int p4), .val (.int p5), .val (.int (3 : Int32)), .val (.ref b80), .unset] [(.int (p2.toInt8.toInt32)), (.int (0 : Int32)), (.ref b80)])) rfl rfl (hb hby at_24)
    rw [own_nb] at W85
    have Vb80_86 : Arv Z h85 b80 k80 .byte (3 : Int32) [(.int (p2.toInt8.toInt32)), (.int (0 : Int32)), (.int (0 : Int32))] (.int (0 : Int32)) := Arv.set Ar85 q85 S85 M85 H85 G85 (fits_nar_byte _) W85 0 rfl (Nat.le_of_ble_eq_true rfl)
    have Zp87 := Nat.le_trans Zp83 (Keep.of_wr W85).1
    have Np88 := Fr.snoc X85 N0 ge81
    refine Go.on st85 ?_
    show Go p.tables e below s _ _ _ (T85.setTop (mkF m 25 #[.val (.int p1), .val (.int p2), .val (.int p3), .val (.int p4), .val (.int p5), .val (.int (3 : Int32)), .val (.ref b80), .unset] []))
    refine Go.on (fun t k => XS.iload X85.here hx rfl (hb hby at_25) rfl k) ?_
    show Go p.tables e below s _ _ _ (T85.setTop (mkF m 27 #[.val (.int p1), .val (.int p2), .val (.int p3), .val (.int p4), .val (.int p5), .val (.int (3 : Int32)), .val (.ref b80), .unset] [(.int (3 : Int32))]))
    refine Go.on (fun t k => XS.iconst X85.here hx rfl (hb hby at_27) k) ?_
    show Go p.tables e below s _ _ _ (T85.setTop (mkF m 28 #[.val (.int p1), .val (.int p2), .val (.int p3), .val (.int p4), .val (.int p5), .val (.int (3 : Int32)), .val (.ref b80), .unset] [(.int (1 : Int32)), (.int (3 : Int32))]))
    refine Go.on (fun t k => XS.icmpNo X85.here hx rfl (hb hby at_28) rfl (tlt (by decide : (1 : Int32) < (3 : Int32))).2.2.2 k) ?_
    show Go p.tables e below s _ _ _ (T85.setTop (mkF m 31 #[.val (.int p1), .val (.int p2), .val (.int p3), .val (.int p4), .val (.int p5), .val (.int (3 : Int32)), .val (.ref b80), .unset] []))
    refine Go.on (fun t k => XS.aload X85.here hx rfl (hb hby at_31) rfl rfl k) ?_
    show Go p.tables e below s _ _ _ (T85.setTop (mkF m 33 #[.val (.int p1), .val (.int p2), .val (.int p3), .val (.int p4), .val (.int p5), .val (.int (3 : Int32)), .val (.ref b80), .unset] [(.ref b80)]))
    refine Go.on (fun t k => XS.iconst X85.here hx rfl (hb hby at_33) k) ?_
    show Go p.tables e below s _ _ _ (T85.setTop (mkF m 34 #[.val (.int p1), .val (.int p2), .val (.int p3), .val (.int p4), .val (.int p5), .val (.int (3 : Int32)), .val (.ref b80), .unset] [(.int (1 : Int32)), (.ref b80)]))
    refine Go.on (fun t k => XS.iloadN X85.here hx rfl (hb hby at_34) rfl k) ?_
    show Go p.tables e below s _ _ _ (T85.setTop (mkF m 35 #[.val (.int p1), .val (.int p2), .val (.int p3), .val (.int p4), .val (.int p5), .val (.int (3 : Int32)), .val (.ref b80), .unset] [(.int p3), (.int (1 : Int32)), (.ref b80)]))
    refine Go.on (fun t k => XS.i2b X85.here hx rfl (hb hby at_35) rfl k) ?_
    show Go p.tables e below s _ _ _ (T85.setTop (mkF m 36 #[.val (.int p1), .val (.int p2), .val (.int p3), .val (.int p4), .val (.int p5), .val (.int (3 : Int32)), .val (.ref b80), .unset] [(.int (p3.toInt8.toInt32)), (.int (1 : Int32)), (.ref b80)]))
    obtain ⟨cl89, Ar89, q89, S89, M89, H89, G89⟩ := id Vb80_86
    have hin89 : ¬ ((1 : Int32) < 0 ∨ cl89.slots.size ≤ ((1 : Int32)).toNatClampNeg) := inb_of S89 ⟨by decide, by decide⟩
    obtain ⟨T89, h89, X89, e89, W89, st89⟩ := stB X85 hx hZ e85 Ar89 (j := (1 : Int32)) hin89 (g := (mkF m 36 #[.val (.int p1), .val (.int p2), .val (.int p3), .val (.int p4), .val (.int p5), .val (.int (3 : Int32)), .val (.ref b80), .unset] [(.int (p3.toInt8.toInt32)), (.int (1 : Int32)), (.ref b80)])) rfl rfl (hb hby at_36)
    rw [own_nb] at W89
    have Vb80_90 : Arv Z h89 b80 k80 .byte (3 : Int32) [(.int (p2.toInt8.toInt32)), (.int (p3.toInt8.toInt32)), (.int (0 : Int32))] (.int (0 : Int32)) := Arv.set Ar89 q89 S89 M89 H89 G89 (fits_nar_byte _) W89 1 rfl (Nat.le_of_ble_eq_true rfl)
    have Zp91 := Nat.le_trans Zp87 (Keep.of_wr W89).1
    have Np92 := Fr.snoc X89 Np88 ge81
    refine Go.on st89 ?_
    show Go p.tables e below s _ _ _ (T89.setTop (mkF m 37 #[.val (.int p1), .val (.int p2), .val (.int p3), .val (.int p4), .val (.int p5), .val (.int (3 : Int32)), .val (.ref b80), .unset] []))
    refine Go.on (fun t k => XS.iload X89.here hx rfl (hb hby at_37) rfl k) ?_
    show Go p.tables e below s _ _ _ (T89.setTop (mkF m 39 #[.val (.int p1), .val (.int p2), .val (.int p3), .val (.int p4), .val (.int p5), .val (.int (3 : Int32)), .val (.ref b80), .unset] [(.int (3 : Int32))]))
    refine Go.on (fun t k => XS.iconst X89.here hx rfl (hb hby at_39) k) ?_
    show Go p.tables e below s _ _ _ (T89.setTop (mkF m 40 #[.val (.int p1), .val (.int p2), .val (.int p3), .val (.int p4), .val (.int p5), .val (.int (3 : Int32)), .val (.ref b80), .unset] [(.int (2 : Int32)), (.int (3 : Int32))]))
    refine Go.on (fun t k => XS.icmpNo X89.here hx rfl (hb hby at_40) rfl (tlt (by decide : (2 : Int32) < (3 : Int32))).2.2.2 k) ?_
    show Go p.tables e below s _ _ _ (T89.setTop (mkF m 43 #[.val (.int p1), .val (.int p2), .val (.int p3), .val (.int p4), .val (.int p5), .val (.int (3 : Int32)), .val (.ref b80), .unset] []))
    refine Go.on (fun t k => XS.aload X89.here hx rfl (hb hby at_43) rfl rfl k) ?_
    show Go p.tables e below s _ _ _ (T89.setTop (mkF m 45 #[.val (.int p1), .val (.int p2), .val (.int p3), .val (.int p4), .val (.int p5), .val (.int (3 : Int32)), .val (.ref b80), .unset] [(.ref b80)]))
    refine Go.on (fun t k => XS.iconst X89.here hx rfl (hb hby at_45) k) ?_
    show Go p.tables e below s _ _ _ (T89.setTop (mkF m 46 #[.val (.int p1), .val (.int p2), .val (.int p3), .val (.int p4), .val (.int p5), .val (.int (3 : Int32)), .val (.ref b80), .unset] [(.int (2 : Int32)), (.ref b80)]))
    refine Go.on (fun t k => XS.iloadN X89.here hx rfl (hb hby at_46) rfl k) ?_
    show Go p.tables e below s _ _ _ (T89.setTop (mkF m 47 #[.val (.int p1), .val (.int p2), .val (.int p3), .val (.int p4), .val (.int p5), .val (.int (3 : Int32)), .val (.ref b80), .unset] [(.int p4), (.int (2 : Int32)), (.ref b80)]))
    refine Go.on (fun t k => XS.i2b X89.here hx rfl (hb hby at_47) rfl k) ?_
    show Go p.tables e below s _ _ _ (T89.setTop (mkF m 48 #[.val (.int p1), .val (.int p2), .val (.int p3), .val (.int p4), .val (.int p5), .val (.int (3 : Int32)), .val (.ref b80), .unset] [(.int (p4.toInt8.toInt32)), (.int (2 : Int32)), (.ref b80)]))
    obtain ⟨cl93, Ar93, q93, S93, M93, H93, G93⟩ := id Vb80_90
    have hin93 : ¬ ((2 : Int32) < 0 ∨ cl93.slots.size ≤ ((2 : Int32)).toNatClampNeg) := inb_of S93 ⟨by decide, by decide⟩
    obtain ⟨T93, h93, X93, e93, W93, st93⟩ := stB X89 hx hZ e89 Ar93 (j := (2 : Int32)) hin93 (g := (mkF m 48 #[.val (.int p1), .val (.int p2), .val (.int p3), .val (.int p4), .val (.int p5), .val (.int (3 : Int32)), .val (.ref b80), .unset] [(.int (p4.toInt8.toInt32)), (.int (2 : Int32)), (.ref b80)])) rfl rfl (hb hby at_48)
    rw [own_nb] at W93
    have Vb80_94 : Arv Z h93 b80 k80 .byte (3 : Int32) [(.int (p2.toInt8.toInt32)), (.int (p3.toInt8.toInt32)), (.int (p4.toInt8.toInt32))] (.int (0 : Int32)) := Arv.set Ar93 q93 S93 M93 H93 G93 (fits_nar_byte _) W93 2 rfl (Nat.le_of_ble_eq_true rfl)
    have Zp95 := Nat.le_trans Zp91 (Keep.of_wr W93).1
    have Np96 := Fr.snoc X93 Np92 ge81
    refine Go.on st93 ?_
    show Go p.tables e below s _ _ _ (T93.setTop (mkF m 49 #[.val (.int p1), .val (.int p2), .val (.int p3), .val (.int p4), .val (.int p5), .val (.int (3 : Int32)), .val (.ref b80), .unset] []))
    refine Go.on (fun t k => XS.iload X93.here hx rfl (hb hby at_49) rfl k) ?_
    show Go p.tables e below s _ _ _ (T93.setTop (mkF m 51 #[.val (.int p1), .val (.int p2), .val (.int p3), .val (.int p4), .val (.int p5), .val (.int (3 : Int32)), .val (.ref b80), .unset] [(.int (3 : Int32))]))
    refine Go.on (fun t k => XS.iconst X93.here hx rfl (hb hby at_51) k) ?_
    show Go p.tables e below s _ _ _ (T93.setTop (mkF m 52 #[.val (.int p1), .val (.int p2), .val (.int p3), .val (.int p4), .val (.int p5), .val (.int (3 : Int32)), .val (.ref b80), .unset] [(.int (3 : Int32)), (.int (3 : Int32))]))
    refine Go.on (fun t k => XS.icmpYes X93.here hx rfl (pc0 := 52) (pc' := 62) rfl (hb hby at_52) rfl (flt (by decide : ¬ ((3 : Int32) < (3 : Int32)))).2.2.2 (by decide) (by decide) k) ?_
    show Go p.tables e below s _ _ _ (T93.setTop (mkF m 62 #[.val (.int p1), .val (.int p2), .val (.int p3), .val (.int p4), .val (.int p5), .val (.int (3 : Int32)), .val (.ref b80), .unset] []))
    refine Go.on (fun t k => XS.aload X93.here hx rfl (hb hby at_62) rfl rfl k) ?_
    show Go p.tables e below s _ _ _ (T93.setTop (mkF m 64 #[.val (.int p1), .val (.int p2), .val (.int p3), .val (.int p4), .val (.int p5), .val (.int (3 : Int32)), .val (.ref b80), .unset] [(.ref b80)]))
    obtain ⟨_, _, ⟨T97, L97, k97, n97⟩, -, X97, ⟨Lc97, hQ97, l97, y97, z97⟩, st97⟩ := Jvm.LawKit.callS X93 hx (y := (⟨"com/example/rhythmwire/rhythmwire/hl7/Mllp", "frame", "([B)[B"⟩ : MethodName)) hown (mvT hZ (hw _ (List.mem_of_getElem? (i := 2) rfl))) (mvT hZ (hw _ (List.mem_of_getElem? (i := 3) rfl))) (mvT hZ (hw _ (List.mem_of_getElem? (i := 4) rfl))) (mvT hZ (hw _ (List.mem_of_getElem? (i := 5) rfl))) (by decide) (backOf (W := 0) (rm1_3 l Z a0 hw [] b80 k80 p2.toInt8.toInt32 p3.toInt8.toInt32 p4.toInt8.toInt32 h93 n0 Zp95 Vb80_94) hZ (hw _ (List.mem_of_getElem? (i := 5) rfl)) (hw _ (List.mem_of_getElem? (i := 4) rfl)) (by decide) (by decide)) (g := (mkF m 64 #[.val (.int p1), .val (.int p2), .val (.int p3), .val (.int p4), .val (.int p5), .val (.int (3 : Int32)), .val (.ref b80), .unset] [(.ref b80)])) rfl (by rw [hml]; rfl) (argsL := [(.ref b80)]) (rest := []) (lenOf pd__40__91_B_41__91_B rfl) rfl (by show 2 * 0 + _ ≤ _; exact Nat.le_of_eq rfl) (hb hby at_64) (fun _ _ => ⟨rfl, e93, (by decide : (0 + 1) + 1 ≤ _), (by decide : (0 + 3) + 6 ≤ _)⟩)
    dsimp only [Pt.U, Pt.locs, Pt.cells, Pt.slots] at X97 l97 y97 z97 st97 hQ97
    subst l97 y97 z97
    obtain ⟨b97, kb97, rfl, Nq97, Kq97, P97_0, P97_1, P97_2⟩ := hQ97
    have Vb80_98 := Vb80_94.keep Kq97 nin0
    have Zp99 := Nat.le_trans Zp95 Kq97.1
    have ne100 : b80 ≠ b97 := Nat.ne_of_lt (Nat.lt_of_lt_of_le Vb80_94.lt P97_1)
    have Np101 := Fr.app Np96 Nq97
    refine Go.on st97 ?_
    show Go p.tables e below s _ _ _ (T97.setTop (mkF m 67 #[.val (.int p1), .val (.int p2), .val (.int p3), .val (.int p4), .val (.int p5), .val (.int (3 : Int32)), .val (.ref b80), .unset] [(.ref b97)]))
    refine Go.on (fun t k => XS.astore X97.here hx rfl (hb hby at_67) rfl rfl (l' := #[.val (.int p1), .val (.int p2), .val (.int p3), .val (.int p4), .val (.int p5), .val (.int (3 : Int32)), .val (.ref b80), .val (.ref b97)]) rfl k) ?_
    show Go p.tables e below s _ _ _ (T97.setTop (mkF m 69 #[.val (.int p1), .val (.int p2), .val (.int p3), .val (.int p4), .val (.int p5), .val (.int (3 : Int32)), .val (.ref b80), .val (.ref b97)] []))
    refine Go.on (fun t k => XS.aload X97.here hx rfl (hb hby at_69) rfl rfl k) ?_
    show Go p.tables e below s _ _ _ (T97.setTop (mkF m 71 #[.val (.int p1), .val (.int p2), .val (.int p3), .val (.int p4), .val (.int p5), .val (.int (3 : Int32)), .val (.ref b80), .val (.ref b97)] [(.ref b97)]))
    refine Go.on (fun t k => XS.ifnullNo X97.here hx rfl (hb hby at_71) rfl k) ?_
    show Go p.tables e below s _ _ _ (T97.setTop (mkF m 74 #[.val (.int p1), .val (.int p2), .val (.int p3), .val (.int p4), .val (.int p5), .val (.int (3 : Int32)), .val (.ref b80), .val (.ref b97)] []))
    refine Go.on (fun t k => XS.aload X97.here hx rfl (hb hby at_74) rfl rfl k) ?_
    show Go p.tables e below s _ _ _ (T97.setTop (mkF m 76 #[.val (.int p1), .val (.int p2), .val (.int p3), .val (.int p4), .val (.int p5), .val (.int (3 : Int32)), .val (.ref b80), .val (.ref b97)] [(.ref b97)]))
    obtain ⟨cl102, Ar102, q102, S102, M102, H102, G102⟩ := id P97_2
    refine Go.on (fun t k => X97.arraylength hx Ar102.1 (State.isArrayOf_alike hZ.alike Ar102.2.1) (g := (mkF m 76 #[.val (.int p1), .val (.int p2), .val (.int p3), .val (.int p4), .val (.int p5), .val (.int (3 : Int32)), .val (.ref b80), .val (.ref b97)] [(.ref b97)])) rfl rfl (hb hby at_76) t k) ?_
    rw [len_of S102 M102]
    show Go p.tables e below s _ _ _ (T97.setTop (mkF m 77 #[.val (.int p1), .val (.int p2), .val (.int p3), .val (.int p4), .val (.int p5), .val (.int (3 : Int32)), .val (.ref b80), .val (.ref b97)] [(.int (6 : Int32))]))
    refine Go.on (fun t k => XS.iload X97.here hx rfl (hb hby at_77) rfl k) ?_
    show Go p.tables e below s _ _ _ (T97.setTop (mkF m 79 #[.val (.int p1), .val (.int p2), .val (.int p3), .val (.int p4), .val (.int p5), .val (.int (3 : Int32)), .val (.ref b80), .val (.ref b97)] [(.int (3 : Int32)), (.int (6 : Int32))]))
    refine Go.on (fun t k => XS.iconst X97.here hx rfl (hb hby at_79) k) ?_
    show Go p.tables e below s _ _ _ (T97.setTop (mkF m 80 #[.val (.int p1), .val (.int p2), .val (.int p3), .val (.int p4), .val (.int p5), .val (.int (3 : Int32)), .val (.ref b80), .val (.ref b97)] [(.int (3 : Int32)), (.int (3 : Int32)), (.int (6 : Int32))]))
    refine Go.on (fun t k => XS.iadd X97.here hx rfl (hb hby at_80) rfl k) ?_
    show Go p.tables e below s _ _ _ (T97.setTop (mkF m 81 #[.val (.int p1), .val (.int p2), .val (.int p3), .val (.int p4), .val (.int p5), .val (.int (3 : Int32)), .val (.ref b80), .val (.ref b97)] [(.int (6 : Int32)), (.int (6 : Int32))]))
    refine Go.on (fun t k => XS.icmpYes X97.here hx rfl (pc0 := 81) (pc' := 86) rfl (hb hby at_81) rfl (teq (by decide : (6 : Int32) = (6 : Int32))).1 (by decide) (by decide) k) ?_
    show Go p.tables e below s _ _ _ (T97.setTop (mkF m 86 #[.val (.int p1), .val (.int p2), .val (.int p3), .val (.int p4), .val (.int p5), .val (.int (3 : Int32)), .val (.ref b80), .val (.ref b97)] []))
    refine Go.on (fun t k => XS.aload X97.here hx rfl (hb hby at_86) rfl rfl k) ?_
    show Go p.tables e below s _ _ _ (T97.setTop (mkF m 88 #[.val (.int p1), .val (.int p2), .val (.int p3), .val (.int p4), .val (.int p5), .val (.int (3 : Int32)), .val (.ref b80), .val (.ref b97)] [(.ref b97)]))
    refine Go.on (fun t k => XS.iconst X97.here hx rfl (hb hby at_88) k) ?_
    show Go p.tables e below s _ _ _ (T97.setTop (mkF m 89 #[.val (.int p1), .val (.int p2), .val (.int p3), .val (.int p4), .val (.int p5), .val (.int (3 : Int32)), .val (.ref b80), .val (.ref b97)] [(.int (0 : Int32)), (.ref b97)]))
    obtain ⟨cl103, Ar103, q103, S103, M103, H103, G103⟩ := id P97_2
    have hin103 : ¬ ((0 : Int32) < 0 ∨ cl103.slots.size ≤ ((0 : Int32)).toNatClampNeg) := inb_of S103 ⟨by decide, by decide⟩
    have hat103 : cl103.slots[((0 : Int32)).toNatClampNeg]? = some (.int (11 : Int32)) := H103.at hin103 rfl
    refine Go.on (fun t k => X97.baloadBytes hx (j := (0 : Int32)) (v := (.int (11 : Int32))) Ar103.1 (State.isArrayOf_alike hZ.alike Ar103.2.1) Ar103.2.2 hin103 hat103 (g := (mkF m 89 #[.val (.int p1), .val (.int p2), .val (.int p3), .val (.int p4), .val (.int p5), .val (.int (3 : Int32)), .val (.ref b80), .val (.ref b97)] [(.int (0 : Int32)), (.ref b97)])) rfl rfl (hb hby at_89) t k) ?_
    show Go p.tables e below s _ _ _ (T97.setTop (mkF m 90 #[.val (.int p1), .val (.int p2), .val (.int p3), .val (.int p4), .val (.int p5), .val (.int (3 : Int32)), .val (.ref b80), .val (.ref b97)] [(.int (11 : Int32))]))
    refine Go.on (fun t k => XS.bipush X97.here hx rfl (hb hby at_90) k) ?_
    show Go p.tables e below s _ _ _ (T97.setTop (mkF m 92 #[.val (.int p1), .val (.int p2), .val (.int p3), .val (.int p4), .val (.int p5), .val (.int (3 : Int32)), .val (.ref b80), .val (.ref b97)] [(.int (11 : Int32)), (.int (11 : Int32))]))
    refine Go.on (fun t k => XS.icmpYes X97.here hx rfl (pc0 := 92) (pc' := 97) rfl (hb hby at_92) rfl (teq (by decide : (11 : Int32) = (11 : Int32))).1 (by decide) (by decide) k) ?_
    show Go p.tables e below s _ _ _ (T97.setTop (mkF m 97 #[.val (.int p1), .val (.int p2), .val (.int p3), .val (.int p4), .val (.int p5), .val (.int (3 : Int32)), .val (.ref b80), .val (.ref b97)] []))
    refine Go.on (fun t k => XS.aload X97.here hx rfl (hb hby at_97) rfl rfl k) ?_
    show Go p.tables e below s _ _ _ (T97.setTop (mkF m 99 #[.val (.int p1), .val (.int p2), .val (.int p3), .val (.int p4), .val (.int p5), .val (.int (3 : Int32)), .val (.ref b80), .val (.ref b97)] [(.ref b97)]))
    refine Go.on (fun t k => XS.iload X97.here hx rfl (hb hby at_99) rfl k) ?_
    show Go p.tables e below s _ _ _ (T97.setTop (mkF m 101 #[.val (.int p1), .val (.int p2), .val (.int p3), .val (.int p4), .val (.int p5), .val (.int (3 : Int32)), .val (.ref b80), .val (.ref b97)] [(.int (3 : Int32)), (.ref b97)]))
    refine Go.on (fun t k => XS.iconst X97.here hx rfl (hb hby at_101) k) ?_
    show Go p.tables e below s _ _ _ (T97.setTop (mkF m 102 #[.val (.int p1), .val (.int p2), .val (.int p3), .val (.int p4), .val (.int p5), .val (.int (3 : Int32)), .val (.ref b80), .val (.ref b97)] [(.int (1 : Int32)), (.int (3 : Int32)), (.ref b97)]))
    refine Go.on (fun t k => XS.iadd X97.here hx rfl (hb hby at_102) rfl k) ?_
    show Go p.tables e below s _ _ _ (T97.setTop (mkF m 103 #[.val (.int p1), .val (.int p2), .val (.int p3), .val (.int p4), .val (.int p5), .val (.int (3 : Int32)), .val (.ref b80), .val (.ref b97)] [(.int (4 : Int32)), (.ref b97)]))
    obtain ⟨cl104, Ar104, q104, S104, M104, H104, G104⟩ := id P97_2
    have hin104 : ¬ ((4 : Int32) < 0 ∨ cl104.slots.size ≤ ((4 : Int32)).toNatClampNeg) := inb_of S104 ⟨by decide, by decide⟩
    have hat104 : cl104.slots[((4 : Int32)).toNatClampNeg]? = some (.int (28 : Int32)) := H104.at hin104 rfl
    refine Go.on (fun t k => X97.baloadBytes hx (j := (4 : Int32)) (v := (.int (28 : Int32))) Ar104.1 (State.isArrayOf_alike hZ.alike Ar104.2.1) Ar104.2.2 hin104 hat104 (g := (mkF m 103 #[.val (.int p1), .val (.int p2), .val (.int p3), .val (.int p4), .val (.int p5), .val (.int (3 : Int32)), .val (.ref b80), .val (.ref b97)] [(.int (4 : Int32)), (.ref b97)])) rfl rfl (hb hby at_103) t k) ?_
    show Go p.tables e below s _ _ _ (T97.setTop (mkF m 104 #[.val (.int p1), .val (.int p2), .val (.int p3), .val (.int p4), .val (.int p5), .val (.int (3 : Int32)), .val (.ref b80), .val (.ref b97)] [(.int (28 : Int32))]))
    refine Go.on (fun t k => XS.bipush X97.here hx rfl (hb hby at_104) k) ?_
    show Go p.tables e below s _ _ _ (T97.setTop (mkF m 106 #[.val (.int p1), .val (.int p2), .val (.int p3), .val (.int p4), .val (.int p5), .val (.int (3 : Int32)), .val (.ref b80), .val (.ref b97)] [(.int (28 : Int32)), (.int (28 : Int32))]))
    refine Go.on (fun t k => XS.icmpNo X97.here hx rfl (hb hby at_106) rfl (teq (by decide : (28 : Int32) = (28 : Int32))).2 k) ?_
    show Go p.tables e below s _ _ _ (T97.setTop (mkF m 109 #[.val (.int p1), .val (.int p2), .val (.int p3), .val (.int p4), .val (.int p5), .val (.int (3 : Int32)), .val (.ref b80), .val (.ref b97)] []))
    refine Go.on (fun t k => XS.aload X97.here hx rfl (hb hby at_109) rfl rfl k) ?_
    show Go p.tables e below s _ _ _ (T97.setTop (mkF m 111 #[.val (.int p1), .val (.int p2), .val (.int p3), .val (.int p4), .val (.int p5), .val (.int (3 : Int32)), .val (.ref b80), .val (.ref b97)] [(.ref b97)]))
    refine Go.on (fun t k => XS.iload X97.here hx rfl (hb hby at_111) rfl k) ?_
    show Go p.tables e below s _ _ _ (T97.setTop (mkF m 113 #[.val (.int p1), .val (.int p2), .val (.int p3), .val (.int p4), .val (.int p5), .val (.int (3 : Int32)), .val (.ref b80), .val (.ref b97)] [(.int (3 : Int32)), (.ref b97)]))
    refine Go.on (fun t k => XS.iconst X97.here hx rfl (hb hby at_113) k) ?_
    show Go p.tables e below s _ _ _ (T97.setTop (mkF m 114 #[.val (.int p1), .val (.int p2), .val (.int p3), .val (.int p4), .val (.int p5), .val (.int (3 : Int32)), .val (.ref b80), .val (.ref b97)] [(.int (2 : Int32)), (.int (3 : Int32)), (.ref b97)]))
    refine Go.on (fun t k => XS.iadd X97.here hx rfl (hb hby at_114) rfl k) ?_
    show Go p.tables e below s _ _ _ (T97.setTop (mkF m 115 #[.val (.int p1), .val (.int p2), .val (.int p3), .val (.int p4), .val (.int p5), .val (.int (3 : Int32)), .val (.ref b80), .val (.ref b97)] [(.int (5 : Int32)), (.ref b97)]))
    obtain ⟨cl105, Ar105, q105, S105, M105, H105, G105⟩ := id P97_2
    have hin105 : ¬ ((5 : Int32) < 0 ∨ cl105.slots.size ≤ ((5 : Int32)).toNatClampNeg) := inb_of S105 ⟨by decide, by decide⟩
    have hat105 : cl105.slots[((5 : Int32)).toNatClampNeg]? = some (.int (13 : Int32)) := H105.at hin105 rfl
    refine Go.on (fun t k => X97.baloadBytes hx (j := (5 : Int32)) (v := (.int (13 : Int32))) Ar105.1 (State.isArrayOf_alike hZ.alike Ar105.2.1) Ar105.2.2 hin105 hat105 (g := (mkF m 115 #[.val (.int p1), .val (.int p2), .val (.int p3), .val (.int p4), .val (.int p5), .val (.int (3 : Int32)), .val (.ref b80), .val (.ref b97)] [(.int (5 : Int32)), (.ref b97)])) rfl rfl (hb hby at_115) t k) ?_
    show Go p.tables e below s _ _ _ (T97.setTop (mkF m 116 #[.val (.int p1), .val (.int p2), .val (.int p3), .val (.int p4), .val (.int p5), .val (.int (3 : Int32)), .val (.ref b80), .val (.ref b97)] [(.int (13 : Int32))]))
    refine Go.on (fun t k => XS.bipush X97.here hx rfl (hb hby at_116) k) ?_
    show Go p.tables e below s _ _ _ (T97.setTop (mkF m 118 #[.val (.int p1), .val (.int p2), .val (.int p3), .val (.int p4), .val (.int p5), .val (.int (3 : Int32)), .val (.ref b80), .val (.ref b97)] [(.int (13 : Int32)), (.int (13 : Int32))]))
    refine Go.on (fun t k => XS.icmpYes X97.here hx rfl (pc0 := 118) (pc' := 123) rfl (hb hby at_118) rfl (teq (by decide : (13 : Int32) = (13 : Int32))).1 (by decide) (by decide) k) ?_
    show Go p.tables e below s _ _ _ (T97.setTop (mkF m 123 #[.val (.int p1), .val (.int p2), .val (.int p3), .val (.int p4), .val (.int p5), .val (.int (3 : Int32)), .val (.ref b80), .val (.ref b97)] []))
    refine Go.on (fun t k => XS.aload X97.here hx rfl (hb hby at_123) rfl rfl k) ?_
    show Go p.tables e below s _ _ _ (T97.setTop (mkF m 125 #[.val (.int p1), .val (.int p2), .val (.int p3), .val (.int p4), .val (.int p5), .val (.int (3 : Int32)), .val (.ref b80), .val (.ref b97)] [(.ref b97)]))
    refine Go.on (fun t k => XS.aload X97.here hx rfl (hb hby at_125) rfl rfl k) ?_
    show Go p.tables e below s _ _ _ (T97.setTop (mkF m 127 #[.val (.int p1), .val (.int p2), .val (.int p3), .val (.int p4), .val (.int p5), .val (.int (3 : Int32)), .val (.ref b80), .val (.ref b97)] [(.ref b80), (.ref b97)]))
    refine Go.on (fun t k => XS.iconst X97.here hx rfl (hb hby at_127) k) ?_
    show Go p.tables e below s _ _ _ (T97.setTop (mkF m 128 #[.val (.int p1), .val (.int p2), .val (.int p3), .val (.int p4), .val (.int p5), .val (.int (3 : Int32)), .val (.ref b80), .val (.ref b97)] [(.int (0 : Int32)), (.ref b80), (.ref b97)]))
    refine Go.on (fun t k => XS.iloadN X97.here hx rfl (hb hby at_128) rfl k) ?_
    show Go p.tables e below s _ _ _ (T97.setTop (mkF m 129 #[.val (.int p1), .val (.int p2), .val (.int p3), .val (.int p4), .val (.int p5), .val (.int (3 : Int32)), .val (.ref b80), .val (.ref b97)] [(.int p2), (.int (0 : Int32)), (.ref b80), (.ref b97)]))
    obtain ⟨_, _, ⟨T106, L106, k106, n106⟩, -, X106, ⟨Lc106, hQ106, l106, y106, z106⟩, st106⟩ := Jvm.LawKit.callS X97 hx (y := (⟨"com/example/rhythmwire/rhythmwire/hl7/MllpFramePinLaw", "slot", "([B[BII)Z"⟩ : MethodName)) hown (mvT hZ (hw _ (List.mem_of_getElem? (i := 10) rfl))) (mvT hZ (hw _ (List.mem_of_getElem? (i := 11) rfl))) (mvT hZ (hw _ (List.mem_of_getElem? (i := 12) rfl))) (mvT hZ (hw _ (List.mem_of_getElem? (i := 13) rfl))) (by decide) (backOf (W := 0) (rm2i l Z a0 hw [] b97 b80 (0 : Int32) p2 kb97 k80 (6 : Int32) (3 : Int32) ([(.int (11 : Int32)), (.int p2.toInt8.toInt32), (.int p3.toInt8.toInt32), (.int p4.toInt8.toInt32), (.int (28 : Int32)), (.int (13 : Int32))]) ([(.int (p2.toInt8.toInt32)), (.int (p3.toInt8.toInt32)), (.int (p4.toInt8.toInt32))]) T97.heap n0 Zp99 P97_2 Vb80_98 ⟨by decide, by decide⟩ ⟨by decide, by decide⟩ rfl rfl) hZ (hw _ (List.mem_of_getElem? (i := 13) rfl)) (hw _ (List.mem_of_getElem? (i := 12) rfl)) (by decide) (by decide)) (g := (mkF m 129 #[.val (.int p1), .val (.int p2), .val (.int p3), .val (.int p4), .val (.int p5), .val (.int (3 : Int32)), .val (.ref b80), .val (.ref b97)] [(.int p2), (.int (0 : Int32)), (.ref b80), (.ref b97)])) rfl (by rw [hml]; rfl) (argsL := [(.ref b97), (.ref b80), (.int (0 : Int32)), (.int p2)]) (rest := []) (lenOf pd__40__91_B_91_BII_41_Z rfl) rfl (by show 2 * 0 + _ ≤ _; exact Nat.le_of_eq rfl) (hb hby at_129) (fun _ _ => ⟨rfl, rfl, (by decide : ((0 + 1) + 1) + 0 ≤ _), (by decide : ((0 + 3) + 6) + 0 ≤ _)⟩)
    dsimp only [Pt.U, Pt.locs, Pt.cells, Pt.slots] at X106 l106 y106 z106 st106 hQ106
    subst l106 y106 z106
    obtain ⟨rfl, Nq106, e106⟩ := hQ106
    have Np107 := Fr.app Np101 Nq106
    refine Go.on st106 ?_
    show Go p.tables e below s _ _ _ (T106.setTop (mkF m 132 #[.val (.int p1), .val (.int p2), .val (.int p3), .val (.int p4), .val (.int p5), .val (.int (3 : Int32)), .val (.ref b80), .val (.ref b97)] [(.int (1 : Int32))]))
    refine Go.on (fun t k => XS.ifNo X106.here hx rfl (hb hby at_132) rfl ((if0 _ _).trans (feq (by decide : ¬ ((1 : Int32) = (0 : Int32)))).1) k) ?_
    show Go p.tables e below s _ _ _ (T106.setTop (mkF m 135 #[.val (.int p1), .val (.int p2), .val (.int p3), .val (.int p4), .val (.int p5), .val (.int (3 : Int32)), .val (.ref b80), .val (.ref b97)] []))
    refine Go.on (fun t k => XS.aload X106.here hx rfl (hb hby at_135) rfl rfl k) ?_
    show Go p.tables e below s _ _ _ (T106.setTop (mkF m 137 #[.val (.int p1), .val (.int p2), .val (.int p3), .val (.int p4), .val (.int p5), .val (.int (3 : Int32)), .val (.ref b80), .val (.ref b97)] [(.ref b97)]))
    refine Go.on (fun t k => XS.aload X106.here hx rfl (hb hby at_137) rfl rfl k) ?_
    show Go p.tables e below s _ _ _ (T106.setTop (mkF m 139 #[.val (.int p1), .val (.int p2), .val (.int p3), .val (.int p4), .val (.int p5), .val (.int (3 : Int32)), .val (.ref b80), .val (.ref b97)] [(.ref b80), (.ref b97)]))
    refine Go.on (fun t k => XS.iconst X106.here hx rfl (hb hby at_139) k) ?_
    show Go p.tables e below s _ _ _ (T106.setTop (mkF m 140 #[.val (.int p1), .val (.int p2), .val (.int p3), .val (.int p4), .val (.int p5), .val (.int (3 : Int32)), .val (.ref b80), .val (.ref b97)] [(.int (1 : Int32)), (.ref b80), (.ref b97)]))
    refine Go.on (fun t k => XS.iloadN X106.here hx rfl (hb hby at_140) rfl k) ?_
    show Go p.tables e below s _ _ _ (T106.setTop (mkF m 141 #[.val (.int p1), .val (.int p2), .val (.int p3), .val (.int p4), .val (.int p5), .val (.int (3 : Int32)), .val (.ref b80), .val (.ref b97)] [(.int p3), (.int (1 : Int32)), (.ref b80), (.ref b97)]))
    obtain ⟨_, _, ⟨T108, L108, k108, n108⟩, -, X108, ⟨Lc108, hQ108, l108, y108, z108⟩, st108⟩ := Jvm.LawKit.callS X106 hx (y := (⟨"com/example/rhythmwire/rhythmwire/hl7/MllpFramePinLaw", "slot", "([B[BII)Z"⟩ : MethodName)) hown (mvT hZ (hw _ (List.mem_of_getElem? (i := 10) rfl))) (mvT hZ (hw _ (List.mem_of_getElem? (i := 11) rfl))) (mvT hZ (hw _ (List.mem_of_getElem? (i := 12) rfl))) (mvT hZ (hw _ (List.mem_of_getElem? (i := 13) rfl))) (by decide) (backOf (W := 0) (rm2i l Z a0 hw [] b97 b80 (1 : Int32) p3 kb97 k80 (6 : Int32) (3 : Int32) ([(.int (11 : Int32)), (.int p2.toInt8.toInt32), (.int p3.toInt8.toInt32), (.int p4.toInt8.toInt32), (.int (28 : Int32)), (.int (13 : Int32))]) ([(.int (p2.toInt8.toInt32)), (.int (p3.toInt8.toInt32)), (.int (p4.toInt8.toInt32))]) T97.heap n0 Zp99 P97_2 Vb80_98 ⟨by decide, by decide⟩ ⟨by decide, by decide⟩ rfl rfl) hZ (hw _ (List.mem_of_getElem? (i := 13) rfl)) (hw _ (List.mem_of_getElem? (i := 12) rfl)) (by decide) (by decide)) (g := (mkF m 141 #[.val (.int p1), .val (.int p2), .val (.int p3), .val (.int p4), .val (.int p5), .val (.int (3 : Int32)), .val (.ref b80), .val (.ref b97)] [(.int p3), (.int (1 : Int32)), (.ref b80), (.ref b97)])) rfl (by rw [hml]; rfl) (argsL := [(.ref b97), (.ref b80), (.int (1 : Int32)), (.int p3)]) (rest := []) (lenOf pd__40__91_B_91_BII_41_Z rfl) rfl (by show 2 * 0 + _ ≤ _; exact Nat.le_of_eq rfl) (hb hby at_141) (fun _ _ => ⟨rfl, e106, (by decide : (((0 + 1) + 1) + 0) + 0 ≤ _), (by decide : (((0 + 3) + 6) + 0) + 0 ≤ _)⟩)
    dsimp only [Pt.U, Pt.locs, Pt.cells, Pt.slots] at X108 l108 y108 z108 st108 hQ108
    subst l108 y108 z108
    obtain ⟨rfl, Nq108, e108⟩ := hQ108
    have Np109 := Fr.app Np107 Nq108
    refine Go.on st108 ?_
    show Go p.tables e below s _ _ _ (T108.setTop (mkF m 144 #[.val (.int p1), .val (.int p2), .val (.int p3), .val (.int p4), .val (.int p5), .val (.int (3 : Int32)), .val (.ref b80), .val (.ref b97)] [(.int (1 : Int32))]))
    refine Go.on (fun t k => XS.ifNo X108.here hx rfl (hb hby at_144) rfl ((if0 _ _).trans (feq (by decide : ¬ ((1 : Int32) = (0 : Int32)))).1) k) ?_
    show Go p.tables e below s _ _ _ (T108.setTop (mkF m 147 #[.val (.int p1), .val (.int p2), .val (.int p3), .val (.int p4), .val (.int p5), .val (.int (3 : Int32)), .val (.ref b80), .val (.ref b97)] []))
    refine Go.on (fun t k => XS.aload X108.here hx rfl (hb hby at_147) rfl rfl k) ?_
    show Go p.tables e below s _ _ _ (T108.setTop (mkF m 149 #[.val (.int p1), .val (.int p2), .val (.int p3), .val (.int p4), .val (.int p5), .val (.int (3 : Int32)), .val (.ref b80), .val (.ref b97)] [(.ref b97)]))
    refine Go.on (fun t k => XS.aload X108.here hx rfl (hb hby at_149) rfl rfl k) ?_
    show Go p.tables e below s _ _ _ (T108.setTop (mkF m 151 #[.val (.int p1), .val (.int p2), .val (.int p3), .val (.int p4), .val (.int p5), .val (.int (3 : Int32)), .val (.ref b80), .val (.ref b97)] [(.ref b80), (.ref b97)]))
    refine Go.on (fun t k => XS.iconst X108.here hx rfl (hb hby at_151) k) ?_
    show Go p.tables e below s _ _ _ (T108.setTop (mkF m 152 #[.val (.int p1), .val (.int p2), .val (.int p3), .val (.int p4), .val (.int p5), .val (.int (3 : Int32)), .val (.ref b80), .val (.ref b97)] [(.int (2 : Int32)), (.ref b80), (.ref b97)]))
    refine Go.on (fun t k => XS.iloadN X108.here hx rfl (hb hby at_152) rfl k) ?_
    show Go p.tables e below s _ _ _ (T108.setTop (mkF m 153 #[.val (.int p1), .val (.int p2), .val (.int p3), .val (.int p4), .val (.int p5), .val (.int (3 : Int32)), .val (.ref b80), .val (.ref b97)] [(.int p4), (.int (2 : Int32)), (.ref b80), (.ref b97)]))
    obtain ⟨_, _, ⟨T110, L110, k110, n110⟩, -, X110, ⟨Lc110, hQ110, l110, y110, z110⟩, st110⟩ := Jvm.LawKit.callS X108 hx (y := (⟨"com/example/rhythmwire/rhythmwire/hl7/MllpFramePinLaw", "slot", "([B[BII)Z"⟩ : MethodName)) hown (mvT hZ (hw _ (List.mem_of_getElem? (i := 10) rfl))) (mvT hZ (hw _ (List.mem_of_getElem? (i := 11) rfl))) (mvT hZ (hw _ (List.mem_of_getElem? (i := 12) rfl))) (mvT hZ (hw _ (List.mem_of_getElem? (i := 13) rfl))) (by decide) (backOf (W := 0) (rm2i l Z a0 hw [] b97 b80 (2 : Int32) p4 kb97 k80 (6 : Int32) (3 : Int32) ([(.int (11 : Int32)), (.int p2.toInt8.toInt32), (.int p3.toInt8.toInt32), (.int p4.toInt8.toInt32), (.int (28 : Int32)), (.int (13 : Int32))]) ([(.int (p2.toInt8.toInt32)), (.int (p3.toInt8.toInt32)), (.int (p4.toInt8.toInt32))]) T97.heap n0 Zp99 P97_2 Vb80_98 ⟨by decide, by decide⟩ ⟨by decide, by decide⟩ rfl rfl) hZ (hw _ (List.mem_of_getElem? (i := 13) rfl)) (hw _ (List.mem_of_getElem? (i := 12) rfl)) (by decide) (by decide)) (g := (mkF m 153 #[.val (.int p1), .val (.int p2), .val (.int p3), .val (.int p4), .val (.int p5), .val (.int (3 : Int32)), .val (.ref b80), .val (.ref b97)] [(.int p4), (.int (2 : Int32)), (.ref b80), (.ref b97)])) rfl (by rw [hml]; rfl) (argsL := [(.ref b97), (.ref b80), (.int (2 : Int32)), (.int p4)]) (rest := []) (lenOf pd__40__91_B_91_BII_41_Z rfl) rfl (by show 2 * 0 + _ ≤ _; exact Nat.le_of_eq rfl) (hb hby at_153) (fun _ _ => ⟨rfl, e108, (by decide : ((((0 + 1) + 1) + 0) + 0) + 0 ≤ _), (by decide : ((((0 + 3) + 6) + 0) + 0) + 0 ≤ _)⟩)
    dsimp only [Pt.U, Pt.locs, Pt.cells, Pt.slots] at X110 l110 y110 z110 st110 hQ110
    subst l110 y110 z110
    obtain ⟨rfl, Nq110, e110⟩ := hQ110
    have Np111 := Fr.app Np109 Nq110
    refine Go.on st110 ?_
    show Go p.tables e below s _ _ _ (T110.setTop (mkF m 156 #[.val (.int p1), .val (.int p2), .val (.int p3), .val (.int p4), .val (.int p5), .val (.int (3 : Int32)), .val (.ref b80), .val (.ref b97)] [(.int (1 : Int32))]))
    refine Go.on (fun t k => XS.ifNo X110.here hx rfl (hb hby at_156) rfl ((if0 _ _).trans (feq (by decide : ¬ ((1 : Int32) = (0 : Int32)))).1) k) ?_
    show Go p.tables e below s _ _ _ (T110.setTop (mkF m 159 #[.val (.int p1), .val (.int p2), .val (.int p3), .val (.int p4), .val (.int p5), .val (.int (3 : Int32)), .val (.ref b80), .val (.ref b97)] []))
    refine Go.on (fun t k => XS.aload X110.here hx rfl (hb hby at_159) rfl rfl k) ?_
    show Go p.tables e below s _ _ _ (T110.setTop (mkF m 161 #[.val (.int p1), .val (.int p2), .val (.int p3), .val (.int p4), .val (.int p5), .val (.int (3 : Int32)), .val (.ref b80), .val (.ref b97)] [(.ref b97)]))
    refine Go.on (fun t k => XS.aload X110.here hx rfl (hb hby at_161) rfl rfl k) ?_
    show Go p.tables e below s _ _ _ (T110.setTop (mkF m 163 #[.val (.int p1), .val (.int p2), .val (.int p3), .val (.int p4), .val (.int p5), .val (.int (3 : Int32)), .val (.ref b80), .val (.ref b97)] [(.ref b80), (.ref b97)]))
    refine Go.on (fun t k => XS.iconst X110.here hx rfl (hb hby at_163) k) ?_
    show Go p.tables e below s _ _ _ (T110.setTop (mkF m 164 #[.val (.int p1), .val (.int p2), .val (.int p3), .val (.int p4), .val (.int p5), .val (.int (3 : Int32)), .val (.ref b80), .val (.ref b97)] [(.int (3 : Int32)), (.ref b80), (.ref b97)]))
    refine Go.on (fun t k => XS.iload X110.here hx rfl (hb hby at_164) rfl k) ?_
    show Go p.tables e below s _ _ _ (T110.setTop (mkF m 166 #[.val (.int p1), .val (.int p2), .val (.int p3), .val (.int p4), .val (.int p5), .val (.int (3 : Int32)), .val (.ref b80), .val (.ref b97)] [(.int p5), (.int (3 : Int32)), (.ref b80), (.ref b97)]))
    obtain ⟨_, _, ⟨T112, L112, k112, n112⟩, -, X112, ⟨Lc112, hQ112, l112, y112, z112⟩, st112⟩ := Jvm.LawKit.callS X110 hx (y := (⟨"com/example/rhythmwire/rhythmwire/hl7/MllpFramePinLaw", "slot", "([B[BII)Z"⟩ : MethodName)) hown (mvT hZ (hw _ (List.mem_of_getElem? (i := 10) rfl))) (mvT hZ (hw _ (List.mem_of_getElem? (i := 11) rfl))) (mvT hZ (hw _ (List.mem_of_getElem? (i := 12) rfl))) (mvT hZ (hw _ (List.mem_of_getElem? (i := 13) rfl))) (by decide) (backOf (W := 0) (rm2o l Z a0 hw [] b97 b80 (3 : Int32) p5 kb97 k80 (6 : Int32) (3 : Int32) ([(.int (11 : Int32)), (.int p2.toInt8.toInt32), (.int p3.toInt8.toInt32), (.int p4.toInt8.toInt32), (.int (28 : Int32)), (.int (13 : Int32))]) ([(.int (p2.toInt8.toInt32)), (.int (p3.toInt8.toInt32)), (.int (p4.toInt8.toInt32))]) T97.heap n0 Zp99 P97_2 Vb80_98 (by decide)) hZ (hw _ (List.mem_of_getElem? (i := 13) rfl)) (hw _ (List.mem_of_getElem? (i := 12) rfl)) (by decide) (by decide)) (g := (mkF m 166 #[.val (.int p1), .val (.int p2), .val (.int p3), .val (.int p4), .val (.int p5), .val (.int (3 : Int32)), .val (.ref b80), .val (.ref b97)] [(.int p5), (.int (3 : Int32)), (.ref b80), (.ref b97)])) rfl (by rw [hml]; rfl) (argsL := [(.ref b97), (.ref b80), (.int (3 : Int32)), (.int p5)]) (rest := []) (lenOf pd__40__91_B_91_BII_41_Z rfl) rfl (by show 2 * 0 + _ ≤ _; exact Nat.le_of_eq rfl) (hb hby at_166) (fun _ _ => ⟨rfl, e110, (by decide : (((((0 + 1) + 1) + 0) + 0) + 0) + 0 ≤ _), (by decide : (((((0 + 3) + 6) + 0) + 0) + 0) + 0 ≤ _)⟩)
    dsimp only [Pt.U, Pt.locs, Pt.cells, Pt.slots] at X112 l112 y112 z112 st112 hQ112
    subst l112 y112 z112
    obtain ⟨rfl, Nq112, e112⟩ := hQ112
    have Np113 := Fr.app Np111 Nq112
    refine Go.on st112 ?_
    show Go p.tables e below s _ _ _ (T112.setTop (mkF m 169 #[.val (.int p1), .val (.int p2), .val (.int p3), .val (.int p4), .val (.int p5), .val (.int (3 : Int32)), .val (.ref b80), .val (.ref b97)] [(.int (1 : Int32))]))
    refine Go.on (fun t k => XS.ifNo X112.here hx rfl (hb hby at_169) rfl ((if0 _ _).trans (feq (by decide : ¬ ((1 : Int32) = (0 : Int32)))).1) k) ?_
    show Go p.tables e below s _ _ _ (T112.setTop (mkF m 172 #[.val (.int p1), .val (.int p2), .val (.int p3), .val (.int p4), .val (.int p5), .val (.int (3 : Int32)), .val (.ref b80), .val (.ref b97)] []))
    refine Go.on (fun t k => XS.iconst X112.here hx rfl (hb hby at_172) k) ?_
    show Go p.tables e below s _ _ _ (T112.setTop (mkF m 173 #[.val (.int p1), .val (.int p2), .val (.int p3), .val (.int p4), .val (.int p5), .val (.int (3 : Int32)), .val (.ref b80), .val (.ref b97)] [(.int (1 : Int32))]))
    refine Go.on (fun t k => XS.goto X112.here hx rfl (pc0 := 173) (pc' := 177) rfl (hb hby at_173) (by decide) (by decide) k) ?_
    show Go p.tables e below s _ _ _ (T112.setTop (mkF m 177 #[.val (.int p1), .val (.int p2), .val (.int p3), .val (.int p4), .val (.int p5), .val (.int (3 : Int32)), .val (.ref b80), .val (.ref b97)] [(.int (1 : Int32))]))
    refine Go.retN X112 hx hlk (t := .boolean) Bd.returns (by simp) (hb hby at_177) (by decide) (by decide) e112 ?_
    exact ⟨rfl, Np113⟩
  · rw [hs1]
    refine Go.on (fun t k => XS.istore X0.here hx rfl (hb hby at_6) rfl (l' := #[.val (.int p1), .val (.int p2), .val (.int p3), .val (.int p4), .val (.int p5), .val (.int (4 : Int32)), .unset, .unset]) rfl k) ?_
    show Go p.tables e below s _ _ _ (s₁.setTop (mkF m 8 #[.val (.int p1), .val (.int p2), .val (.int p3), .val (.int p4), .val (.int p5), .val (.int (4 : Int32)), .unset, .unset] []))
    refine Go.on (fun t k => XS.iload X0.here hx rfl (hb hby at_8) rfl k) ?_
    show Go p.tables e below s _ _ _ (s₁.setTop (mkF m 10 #[.val (.int p1), .val (.int p2), .val (.int p3), .val (.int p4), .val (.int p5), .val (.int (4 : Int32)), .unset, .unset] [(.int (4 : Int32))]))
    obtain ⟨T114, h114, k114, X114, e114, E114, A114, st114⟩ := newP X0 hx hZ (hw _ (List.mem_of_getElem? (i := 1) rfl)) e0 (g := (mkF m 10 #[.val (.int p1), .val (.int p2), .val (.int p3), .val (.int p4), .val (.int p5), .val (.int (4 : Int32)), .unset, .unset] [(.int (4 : Int32))])) rfl (hb hby at_10) rfl (by decide) (cap := 4) (by decide) (by decide) (by decide) (by decide)
    obtain ⟨b114, g114⟩ : ∃ z, z = h0.size := ⟨_, rfl⟩
    rw [← g114] at A114 st114
    have ge115 : n0 ≤ b114 := Nat.le_trans Z0 (Nat.le_of_eq g114.symm)
    have Zp117 := Nat.le_trans Z0 E114.1
    have Vb114_118 : Arv Z h114 b114 k114 .byte (4 : Int32) [(.int (0 : Int32)), (.int (0 : Int32)), (.int (0 : Int32)), (.int (0 : Int32))] (.int (0 : Int32)) := (Arv.new A114 (by decide)).pad (pad_rep [] (.int (0 : Int32)) 4)
    refine Go.on st114 ?_
    show Go p.tables e below s _ _ _ (T114.setTop (mkF m 12 #[.val (.int p1), .val (.int p2), .val (.int p3), .val (.int p4), .val (.int p5), .val (.int (4 : Int32)), .unset, .unset] [(.ref b114)]))
    refine Go.on (fun t k => XS.astore X114.here hx rfl (hb hby at_12) rfl rfl (l' := #[.val (.int p1), .val (.int p2), .val (.int p3), .val (.int p4), .val (.int p5), .val (.int (4 : Int32)), .val (.ref b114), .unset]) rfl k) ?_
    show Go p.tables e below s _ _ _ (T114.setTop (mkF m 14 #[.val (.int p1), .val (.int p2), .val (.int p3), .val (.int p4), .val (.int p5), .val (.int (4 : Int32)), .val (.ref b114), .unset] []))
    refine Go.on (fun t k => XS.iload X114.here hx rfl (hb hby at_14) rfl k) ?_
    show Go p.tables e below s _ _ _ (T114.setTop (mkF m 16 #[.val (.int p1), .val (.int p2), .val (.int p3), .val (.int p4), .val (.int p5), .val (.int (4 : Int32)), .val (.ref b114), .unset] [(.int (4 : Int32))]))
    refine Go.on (fun t k => XS.ifNo X114.here hx rfl (hb hby at_16) rfl ((if0 _ _).trans (tlt (by decide : (0 : Int32) < (4 : Int32))).2.2.2) k) ?_
    show Go p.tables e below s _ _ _ (T114.setTop (mkF m 19 #[.val (.int p1), .val (.int p2), .val (.int p3), .val (.int p4), .val (.int p5), .val (.int (4 : Int32)), .val (.ref b114), .unset] []))
    refine Go.on (fun t k => XS.aload X114.here hx rfl (hb hby at_19) rfl rfl k) ?_
    show Go p.tables e below s _ _ _ (T114.setTop (mkF m 21 #[.val (.int p1), .val (.int p2), .val (.int p3), .val (.int p4), .val (.int p5), .val (.int (4 : Int32)), .val (.ref b114), .unset] [(.ref b114)]))
    refine Go.on (fun t k => XS.iconst X114.here hx rfl (hb hby at_21) k) ?_
    show Go p.tables e below s _ _ _ (T114.setTop (mkF m 22 #[.val (.int p1), .val (.int p2), .val (.int p3), .val (.int p4), .val (.int p5), .val (.int (4 : Int32)), .val (.ref b114), .unset] [(.int (0 : Int32)), (.ref b114)]))
    refine Go.on (fun t k => XS.iloadN X114.here hx rfl (hb hby at_22) rfl k) ?_
    show Go p.tables e below s _ _ _ (T114.setTop (mkF m 23 #[.val (.int p1), .val (.int p2), .val (.int p3), .val (.int p4), .val (.int p5), .val (.int (4 : Int32)), .val (.ref b114), .unset] [(.int p2), (.int (0 : Int32)), (.ref b114)]))
    refine Go.on (fun t k => XS.i2b X114.here hx rfl (hb hby at_23) rfl k) ?_
    show Go p.tables e below s _ _ _ (T114.setTop (mkF m 24 #[.val (.int p1), .val (.int p2), .val (.int p3), .val (.int p4), .val (.int p5), .val (.int (4 : Int32)), .val (.ref b114), .unset] [(.int (p2.toInt8.toInt32)), (.int (0 : Int32)), (.ref b114)]))
    obtain ⟨cl119, Ar119, q119, S119, M119, H119, G119⟩ := id Vb114_118
    have hin119 : ¬ ((0 : Int32) < 0 ∨ cl119.slots.size ≤ ((0 : Int32)).toNatClampNeg) := inb_of S119 ⟨by decide, by decide⟩
    obtain ⟨T119, h119, X119, e119, W119, st119⟩ := stB X114 hx hZ e114 Ar119 (j := (0 : Int32)) hin119 (g := (mkF m 24 #[.val (.int p1), .val (.int p2), .val (.int p3), .val (.int p4), .val (.int p5), .val (.int (4 : Int32)), .val (.ref b114), .unset] [(.int (p2.toInt8.toInt32)), (.int (0 : Int32)), (.ref b114)])) rfl rfl (hb hby at_24)
    rw [own_nb] at W119
    have Vb114_120 : Arv Z h119 b114 k114 .byte (4 : Int32) [(.int (p2.toInt8.toInt32)), (.int (0 : Int32)), (.int (0 : Int32)), (.int (0 : Int32))] (.int (0 : Int32)) := Arv.set Ar119 q119 S119 M119 H119 G119 (fits_nar_byte _) W119 0 rfl (Nat.le_of_ble_eq_true rfl)
    have Zp121 := Nat.le_trans Zp117 (Keep.of_wr W119).1
    have Np122 := Fr.snoc X119 N0 ge115
    refine Go.on st119 ?_
    show Go p.tables e below s _ _ _ (T119.setTop (mkF m 25 #[.val (.int p1), .val (.int p2), .val (.int p3), .val (.int p4), .val (.int p5), .val (.int (4 : Int32)), .val (.ref b114), .unset] []))
    refine Go.on (fun t k => XS.iload X119.here hx rfl (hb hby at_25) rfl k) ?_
    show Go p.tables e below s _ _ _ (T119.setTop (mkF m 27 #[.val (.int p1), .val (.int p2), .val (.int p3), .val (.int p4), .val (.int p5), .val (.int (4 : Int32)), .val (.ref b114), .unset] [(.int (4 : Int32))]))
    refine Go.on (fun t k => XS.iconst X119.here hx rfl (hb hby at_27) k) ?_
    show Go p.tables e below s _ _ _ (T119.setTop (mkF m 28 #[.val (.int p1), .val (.int p2), .val (.int p3), .val (.int p4), .val (.int p5), .val (.int (4 : Int32)), .val (.ref b114), .unset] [(.int (1 : Int32)), (.int (4 : Int32))]))
    refine Go.on (fun t k => XS.icmpNo X119.here hx rfl (hb hby at_28) rfl (tlt (by decide : (1 : Int32) < (4 : Int32))).2.2.2 k) ?_
    show Go p.tables e below s _ _ _ (T119.setTop (mkF m 31 #[.val (.int p1), .val (.int p2), .val (.int p3), .val (.int p4), .val (.int p5), .val (.int (4 : Int32)), .val (.ref b114), .unset] []))
    refine Go.on (fun t k => XS.aload X119.here hx rfl (hb hby at_31) rfl rfl k) ?_
    show Go p.tables e below s _ _ _ (T119.setTop (mkF m 33 #[.val (.int p1), .val (.int p2), .val (.int p3), .val (.int p4), .val (.int p5), .val (.int (4 : Int32)), .val (.ref b114), .unset] [(.ref b114)]))
    refine Go.on (fun t k => XS.iconst X119.here hx rfl (hb hby at_33) k) ?_
    show Go p.tables e below s _ _ _ (T119.setTop (mkF m 34 #[.val (.int p1), .val (.int p2), .val (.int p3), .val (.int p4), .val (.int p5), .val (.int (4 : Int32)), .val (.ref b114), .unset] [(.int (1 : Int32)), (.ref b114)]))
    refine Go.on (fun t k => XS.iloadN X119.here hx rfl (hb hby at_34) rfl k) ?_
    show Go p.tables e below s _ _ _ (T119.setTop (mkF m 35 #[.val (.int p1), .val (.int p2), .val (.int p3), .val (.int p4), .val (.int p5), .val (.int (4 : Int32)), .val (.ref b114), .unset] [(.int p3), (.int (1 : Int32)), (.ref b114)]))
    refine Go.on (fun t k => XS.i2b X119.here hx rfl (hb hby at_35) rfl k) ?_
    show Go p.tables e below s _ _ _ (T119.setTop (mkF m 36 #[.val (.int p1), .val (.int p2), .val (.int p3), .val (.int p4), .val (.int p5), .val (.int (4 : Int32)), .val (.ref b114), .unset] [(.int (p3.toInt8.toInt32)), (.int (1 : Int32)), (.ref b114)]))
    obtain ⟨cl123, Ar123, q123, S123, M123, H123, G123⟩ := id Vb114_120
    have hin123 : ¬ ((1 : Int32) < 0 ∨ cl123.slots.size ≤ ((1 : Int32)).toNatClampNeg) := inb_of S123 ⟨by decide, by decide⟩
    obtain ⟨T123, h123, X123, e123, W123, st123⟩ := stB X119 hx hZ e119 Ar123 (j := (1 : Int32)) hin123 (g := (mkF m 36 #[.val (.int p1), .val (.int p2), .val (.int p3), .val (.int p4), .val (.int p5), .val (.int (4 : Int32)), .val (.ref b114), .unset] [(.int (p3.toInt8.toInt32)), (.int (1 : Int32)), (.ref b114)])) rfl rfl (hb hby at_36)
    rw [own_nb] at W123
    have Vb114_124 : Arv Z h123 b114 k114 .byte (4 : Int32) [(.int (p2.toInt8.toInt32)), (.int (p3.toInt8.toInt32)), (.int (0 : Int32)), (.int (0 : Int32))] (.int (0 : Int32)) := Arv.set Ar123 q123 S123 M123 H123 G123 (fits_nar_byte _) W123 1 rfl (Nat.le_of_ble_eq_true rfl)
    have Zp125 := Nat.le_trans Zp121 (Keep.of_wr W123).1
    have Np126 := Fr.snoc X123 Np122 ge115
    refine Go.on st123 ?_
    show Go p.tables e below s _ _ _ (T123.setTop (mkF m 37 #[.val (.int p1), .val (.int p2), .val (.int p3), .val (.int p4), .val (.int p5), .val (.int (4 : Int32)), .val (.ref b114), .unset] []))
    refine Go.on (fun t k => XS.iload X123.here hx rfl (hb hby at_37) rfl k) ?_
    show Go p.tables e below s _ _ _ (T123.setTop (mkF m 39 #[.val (.int p1), .val (.int p2), .val (.int p3), .val (.int p4), .val (.int p5), .val (.int (4 : Int32)), .val (.ref b114), .unset] [(.int (4 : Int32))]))
    refine Go.on (fun t k => XS.iconst X123.here hx rfl (hb hby at_39) k) ?_
    show Go p.tables e below s _ _ _ (T123.setTop (mkF m 40 #[.val (.int p1), .val (.int p2), .val (.int p3), .val (.int p4), .val (.int p5), .val (.int (4 : Int32)), .val (.ref b114), .unset] [(.int (2 : Int32)), (.int (4 : Int32))]))
    refine Go.on (fun t k => XS.icmpNo X123.here hx rfl (hb hby at_40) rfl (tlt (by decide : (2 : Int32) < (4 : Int32))).2.2.2 k) ?_
    show Go p.tables e below s _ _ _ (T123.setTop (mkF m 43 #[.val (.int p1), .val (.int p2), .val (.int p3), .val (.int p4), .val (.int p5), .val (.int (4 : Int32)), .val (.ref b114), .unset] []))
    refine Go.on (fun t k => XS.aload X123.here hx rfl (hb hby at_43) rfl rfl k) ?_
    show Go p.tables e below s _ _ _ (T123.setTop (mkF m 45 #[.val (.int p1), .val (.int p2), .val (.int p3), .val (.int p4), .val (.int p5), .val (.int (4 : Int32)), .val (.ref b114), .unset] [(.ref b114)]))
    refine Go.on (fun t k => XS.iconst X123.here hx rfl (hb hby at_45) k) ?_
    show Go p.tables e below s _ _ _ (T123.setTop (mkF m 46 #[.val (.int p1), .val (.int p2), .val (.int p3), .val (.int p4), .val (.int p5), .val (.int (4 : Int32)), .val (.ref b114), .unset] [(.int (2 : Int32)), (.ref b114)]))
    refine Go.on (fun t k => XS.iloadN X123.here hx rfl (hb hby at_46) rfl k) ?_
    show Go p.tables e below s _ _ _ (T123.setTop (mkF m 47 #[.val (.int p1), .val (.int p2), .val (.int p3), .val (.int p4), .val (.int p5), .val (.int (4 : Int32)), .val (.ref b114), .unset] [(.int p4), (.int (2 : Int32)), (.ref b114)]))
    refine Go.on (fun t k => XS.i2b X123.here hx rfl (hb hby at_47) rfl k) ?_
    show Go p.tables e below s _ _ _ (T123.setTop (mkF m 48 #[.val (.int p1), .val (.int p2), .val (.int p3), .val (.int p4), .val (.int p5), .val (.int (4 : Int32)), .val (.ref b114), .unset] [(.int (p4.toInt8.toInt32)), (.int (2 : Int32)), (.ref b114)]))
    obtain ⟨cl127, Ar127, q127, S127, M127, H127, G127⟩ := id Vb114_124
    have hin127 : ¬ ((2 : Int32) < 0 ∨ cl127.slots.size ≤ ((2 : Int32)).toNatClampNeg) := inb_of S127 ⟨by decide, by decide⟩
    obtain ⟨T127, h127, X127, e127, W127, st127⟩ := stB X123 hx hZ e123 Ar127 (j := (2 : Int32)) hin127 (g := (mkF m 48 #[.val (.int p1), .val (.int p2), .val (.int p3), .val (.int p4), .val (.int p5), .val (.int (4 : Int32)), .val (.ref b114), .unset] [(.int (p4.toInt8.toInt32)), (.int (2 : Int32)), (.ref b114)])) rfl rfl (hb hby at_48)
    rw [own_nb] at W127
    have Vb114_128 : Arv Z h127 b114 k114 .byte (4 : Int32) [(.int (p2.toInt8.toInt32)), (.int (p3.toInt8.toInt32)), (.int (p4.toInt8.toInt32)), (.int (0 : Int32))] (.int (0 : Int32)) := Arv.set Ar127 q127 S127 M127 H127 G127 (fits_nar_byte _) W127 2 rfl (Nat.le_of_ble_eq_true rfl)
    have Zp129 := Nat.le_trans Zp125 (Keep.of_wr W127).1
    have Np130 := Fr.snoc X127 Np126 ge115
    refine Go.on st127 ?_
    show Go p.tables e below s _ _ _ (T127.setTop (mkF m 49 #[.val (.int p1), .val (.int p2), .val (.int p3), .val (.int p4), .val (.int p5), .val (.int (4 : Int32)), .val (.ref b114), .unset] []))
    refine Go.on (fun t k => XS.iload X127.here hx rfl (hb hby at_49) rfl k) ?_
    show Go p.tables e below s _ _ _ (T127.setTop (mkF m 51 #[.val (.int p1), .val (.int p2), .val (.int p3), .val (.int p4), .val (.int p5), .val (.int (4 : Int32)), .val (.ref b114), .unset] [(.int (4 : Int32))]))
    refine Go.on (fun t k => XS.iconst X127.here hx rfl (hb hby at_51) k) ?_
    show Go p.tables e below s _ _ _ (T127.setTop (mkF m 52 #[.val (.int p1), .val (.int p2), .val (.int p3), .val (.int p4), .val (.int p5), .val (.int (4 : Int32)), .val (.ref b114), .unset] [(.int (3 : Int32)), (.int (4 : Int32))]))
    refine Go.on (fun t k => XS.icmpNo X127.here hx rfl (hb hby at_52) rfl (tlt (by decide : (3 : Int32) < (4 : Int32))).2.2.2 k) ?_
    show Go p.tables e below s _ _ _ (T127.setTop (mkF m 55 #[.val (.int p1), .val (.int p2), .val (.int p3), .val (.int p4), .val (.int p5), .val (.int (4 : Int32)), .val (.ref b114), .unset] []))
    refine Go.on (fun t k => XS.aload X127.here hx rfl (hb hby at_55) rfl rfl k) ?_
    show Go p.tables e below s _ _ _ (T127.setTop (mkF m 57 #[.val (.int p1), .val (.int p2), .val (.int p3), .val (.int p4), .val (.int p5), .val (.int (4 : Int32)), .val (.ref b114), .unset] [(.ref b114)]))
    refine Go.on (fun t k => XS.iconst X127.here hx rfl (hb hby at_57) k) ?_
    show Go p.tables e below s _ _ _ (T127.setTop (mkF m 58 #[.val (.int p1), .val (.int p2), .val (.int p3), .val (.int p4), .val (.int p5), .val (.int (4 : Int32)), .val (.ref b114), .unset] [(.int (3 : Int32)), (.ref b114)]))
    refine Go.on (fun t k => XS.iload X127.here hx rfl (hb hby at_58) rfl k) ?_
    show Go p.tables e below s _ _ _ (T127.setTop (mkF m 60 #[.val (.int p1), .val (.int p2), .val (.int p3), .val (.int p4), .val (.int p5), .val (.int (4 : Int32)), .val (.ref b114), .unset] [(.int p5), (.int (3 : Int32)), (.ref b114)]))
    refine Go.on (fun t k => XS.i2b X127.here hx rfl (hb hby at_60) rfl k) ?_
    show Go p.tables e below s _ _ _ (T127.setTop (mkF m 61 #[.val (.int p1), .val (.int p2), .val (.int p3), .val (.int p4), .val (.int p5), .val (.int (4 : Int32)), .val (.ref b114), .unset] [(.int (p5.toInt8.toInt32)), (.int (3 : Int32)), (.ref b114)]))
    obtain ⟨cl131, Ar131, q131, S131, M131, H131, G131⟩ := id Vb114_128
    have hin131 : ¬ ((3 : Int32) < 0 ∨ cl131.slots.size ≤ ((3 : Int32)).toNatClampNeg) := inb_of S131 ⟨by decide, by decide⟩
    obtain ⟨T131, h131, X131, e131, W131, st131⟩ := stB X127 hx hZ e127 Ar131 (j := (3 : Int32)) hin131 (g := (mkF m 61 #[.val (.int p1), .val (.int p2), .val (.int p3), .val (.int p4), .val (.int p5), .val (.int (4 : Int32)), .val (.ref b114), .unset] [(.int (p5.toInt8.toInt32)), (.int (3 : Int32)), (.ref b114)])) rfl rfl (hb hby at_61)
    rw [own_nb] at W131
    have Vb114_132 : Arv Z h131 b114 k114 .byte (4 : Int32) [(.int (p2.toInt8.toInt32)), (.int (p3.toInt8.toInt32)), (.int (p4.toInt8.toInt32)), (.int (p5.toInt8.toInt32))] (.int (0 : Int32)) := Arv.set Ar131 q131 S131 M131 H131 G131 (fits_nar_byte _) W131 3 rfl (Nat.le_of_ble_eq_true rfl)
    have Zp133 := Nat.le_trans Zp129 (Keep.of_wr W131).1
    have Np134 := Fr.snoc X131 Np130 ge115
    refine Go.on st131 ?_
    show Go p.tables e below s _ _ _ (T131.setTop (mkF m 62 #[.val (.int p1), .val (.int p2), .val (.int p3), .val (.int p4), .val (.int p5), .val (.int (4 : Int32)), .val (.ref b114), .unset] []))
    refine Go.on (fun t k => XS.aload X131.here hx rfl (hb hby at_62) rfl rfl k) ?_
    show Go p.tables e below s _ _ _ (T131.setTop (mkF m 64 #[.val (.int p1), .val (.int p2), .val (.int p3), .val (.int p4), .val (.int p5), .val (.int (4 : Int32)), .val (.ref b114), .unset] [(.ref b114)]))
    obtain ⟨_, _, ⟨T135, L135, k135, n135⟩, -, X135, ⟨Lc135, hQ135, l135, y135, z135⟩, st135⟩ := Jvm.LawKit.callS X131 hx (y := (⟨"com/example/rhythmwire/rhythmwire/hl7/Mllp", "frame", "([B)[B"⟩ : MethodName)) hown (mvT hZ (hw _ (List.mem_of_getElem? (i := 2) rfl))) (mvT hZ (hw _ (List.mem_of_getElem? (i := 3) rfl))) (mvT hZ (hw _ (List.mem_of_getElem? (i := 4) rfl))) (mvT hZ (hw _ (List.mem_of_getElem? (i := 5) rfl))) (by decide) (backOf (W := 0) (rm1_4 l Z a0 hw [] b114 k114 p2.toInt8.toInt32 p3.toInt8.toInt32 p4.toInt8.toInt32 p5.toInt8.toInt32 h131 n0 Zp133 Vb114_132) hZ (hw _ (List.mem_of_getElem? (i := 5) rfl)) (hw _ (List.mem_of_getElem? (i := 4) rfl)) (by decide) (by decide)) (g := (mkF m 64 #[.val (.int p1), .val (.int p2), .val (.int p3), .val (.int p4), .val (.int p5), .val (.int (4 : Int32)), .val (.ref b114), .unset] [(.ref b114)])) rfl (by rw [hml]; rfl) (argsL := [(.ref b114)]) (rest := []) (lenOf pd__40__91_B_41__91_B rfl) rfl (by show 2 * 0 + _ ≤ _; exact Nat.le_of_eq rfl) (hb hby at_64) (fun _ _ => ⟨rfl, e131, (by decide : (0 + 1) + 1 ≤ _), (by decide : (0 + 4) + 7 ≤ _)⟩)
    dsimp only [Pt.U, Pt.locs, Pt.cells, Pt.slots] at X135 l135 y135 z135 st135 hQ135
    subst l135 y135 z135
    obtain ⟨b135, kb135, rfl, Nq135, Kq135, P135_0, P135_1, P135_2⟩ := hQ135
    have Vb114_136 := Vb114_132.keep Kq135 nin0
    have Zp137 := Nat.le_trans Zp133 Kq135.1
    have ne138 : b114 ≠ b135 := Nat.ne_of_lt (Nat.lt_of_lt_of_le Vb114_132.lt P135_1)
    have Np139 := Fr.app Np134 Nq135
    refine Go.on st135 ?_
    show Go p.tables e below s _ _ _ (T135.setTop (mkF m 67 #[.val (.int p1), .val (.int p2), .val (.int p3), .val (.int p4), .val (.int p5), .val (.int (4 : Int32)), .val (.ref b114), .unset] [(.ref b135)]))
    refine Go.on (fun t k => XS.astore X135.here hx rfl (hb hby at_67) rfl rfl (l' := #[.val (.int p1), .val (.int p2), .val (.int p3), .val (.int p4), .val (.int p5), .val (.int (4 : Int32)), .val (.ref b114), .val (.ref b135)]) rfl k) ?_
    show Go p.tables e below s _ _ _ (T135.setTop (mkF m 69 #[.val (.int p1), .val (.int p2), .val (.int p3), .val (.int p4), .val (.int p5), .val (.int (4 : Int32)), .val (.ref b114), .val (.ref b135)] []))
    refine Go.on (fun t k => XS.aload X135.here hx rfl (hb hby at_69) rfl rfl k) ?_
    show Go p.tables e below s _ _ _ (T135.setTop (mkF m 71 #[.val (.int p1), .val (.int p2), .val (.int p3), .val (.int p4), .val (.int p5), .val (.int (4 : Int32)), .val (.ref b114), .val (.ref b135)] [(.ref b135)]))
    refine Go.on (fun t k => XS.ifnullNo X135.here hx rfl (hb hby at_71) rfl k) ?_
    show Go p.tables e below s _ _ _ (T135.setTop (mkF m 74 #[.val (.int p1), .val (.int p2), .val (.int p3), .val (.int p4), .val (.int p5), .val (.int (4 : Int32)), .val (.ref b114), .val (.ref b135)] []))
    refine Go.on (fun t k => XS.aload X135.here hx rfl (hb hby at_74) rfl rfl k) ?_
    show Go p.tables e below s _ _ _ (T135.setTop (mkF m 76 #[.val (.int p1), .val (.int p2), .val (.int p3), .val (.int p4), .val (.int p5), .val (.int (4 : Int32)), .val (.ref b114), .val (.ref b135)] [(.ref b135)]))
    obtain ⟨cl140, Ar140, q140, S140, M140, H140, G140⟩ := id P135_2
    refine Go.on (fun t k => X135.arraylength hx Ar140.1 (State.isArrayOf_alike hZ.alike Ar140.2.1) (g := (mkF m 76 #[.val (.int p1), .val (.int p2), .val (.int p3), .val (.int p4), .val (.int p5), .val (.int (4 : Int32)), .val (.ref b114), .val (.ref b135)] [(.ref b135)])) rfl rfl (hb hby at_76) t k) ?_
    rw [len_of S140 M140]
    show Go p.tables e below s _ _ _ (T135.setTop (mkF m 77 #[.val (.int p1), .val (.int p2), .val (.int p3), .val (.int p4), .val (.int p5), .val (.int (4 : Int32)), .val (.ref b114), .val (.ref b135)] [(.int (7 : Int32))]))
    refine Go.on (fun t k => XS.iload X135.here hx rfl (hb hby at_77) rfl k) ?_
    show Go p.tables e below s _ _ _ (T135.setTop (mkF m 79 #[.val (.int p1), .val (.int p2), .val (.int p3), .val (.int p4), .val (.int p5), .val (.int (4 : Int32)), .val (.ref b114), .val (.ref b135)] [(.int (4 : Int32)), (.int (7 : Int32))]))
    refine Go.on (fun t k => XS.iconst X135.here hx rfl (hb hby at_79) k) ?_
    show Go p.tables e below s _ _ _ (T135.setTop (mkF m 80 #[.val (.int p1), .val (.int p2), .val (.int p3), .val (.int p4), .val (.int p5), .val (.int (4 : Int32)), .val (.ref b114), .val (.ref b135)] [(.int (3 : Int32)), (.int (4 : Int32)), (.int (7 : Int32))]))
    refine Go.on (fun t k => XS.iadd X135.here hx rfl (hb hby at_80) rfl k) ?_
    show Go p.tables e below s _ _ _ (T135.setTop (mkF m 81 #[.val (.int p1), .val (.int p2), .val (.int p3), .val (.int p4), .val (.int p5), .val (.int (4 : Int32)), .val (.ref b114), .val (.ref b135)] [(.int (7 : Int32)), (.int (7 : Int32))]))
    refine Go.on (fun t k => XS.icmpYes X135.here hx rfl (pc0 := 81) (pc' := 86) rfl (hb hby at_81) rfl (teq (by decide : (7 : Int32) = (7 : Int32))).1 (by decide) (by decide) k) ?_
    show Go p.tables e below s _ _ _ (T135.setTop (mkF m 86 #[.val (.int p1), .val (.int p2), .val (.int p3), .val (.int p4), .val (.int p5), .val (.int (4 : Int32)), .val (.ref b114), .val (.ref b135)] []))
    refine Go.on (fun t k => XS.aload X135.here hx rfl (hb hby at_86) rfl rfl k) ?_
    show Go p.tables e below s _ _ _ (T135.setTop (mkF m 88 #[.val (.int p1), .val (.int p2), .val (.int p3), .val (.int p4), .val (.int p5), .val (.int (4 : Int32)), .val (.ref b114), .val (.ref b135)] [(.ref b135)]))
    refine Go.on (fun t k => XS.iconst X135.here hx rfl (hb hby at_88) k) ?_
    show Go p.tables e below s _ _ _ (T135.setTop (mkF m 89 #[.val (.int p1), .val (.int p2), .val (.int p3), .val (.int p4), .val (.int p5), .val (.int (4 : Int32)), .val (.ref b114), .val (.ref b135)] [(.int (0 : Int32)), (.ref b135)]))
    obtain ⟨cl141, Ar141, q141, S141, M141, H141, G141⟩ := id P135_2
    have hin141 : ¬ ((0 : Int32) < 0 ∨ cl141.slots.size ≤ ((0 : Int32)).toNatClampNeg) := inb_of S141 ⟨by decide, by decide⟩
    have hat141 : cl141.slots[((0 : Int32)).toNatClampNeg]? = some (.int (11 : Int32)) := H141.at hin141 rfl
    refine Go.on (fun t k => X135.baloadBytes hx (j := (0 : Int32)) (v := (.int (11 : Int32))) Ar141.1 (State.isArrayOf_alike hZ.alike Ar141.2.1) Ar141.2.2 hin141 hat141 (g := (mkF m 89 #[.val (.int p1), .val (.int p2), .val (.int p3), .val (.int p4), .val (.int p5), .val (.int (4 : Int32)), .val (.ref b114), .val (.ref b135)] [(.int (0 : Int32)), (.ref b135)])) rfl rfl (hb hby at_89) t k) ?_
    show Go p.tables e below s _ _ _ (T135.setTop (mkF m 90 #[.val (.int p1), .val (.int p2), .val (.int p3), .val (.int p4), .val (.int p5), .val (.int (4 : Int32)), .val (.ref b114), .val (.ref b135)] [(.int (11 : Int32))]))
    refine Go.on (fun t k => XS.bipush X135.here hx rfl (hb hby at_90) k) ?_
    show Go p.tables e below s _ _ _ (T135.setTop (mkF m 92 #[.val (.int p1), .val (.int p2), .val (.int p3), .val (.int p4), .val (.int p5), .val (.int (4 : Int32)), .val (.ref b114), .val (.ref b135)] [(.int (11 : Int32)), (.int (11 : Int32))]))
    refine Go.on (fun t k => XS.icmpYes X135.here hx rfl (pc0 := 92) (pc' := 97) rfl (hb hby at_92) rfl (teq (by decide : (11 : Int32) = (11 : Int32))).1 (by decide) (by decide) k) ?_
    show Go p.tables e below s _ _ _ (T135.setTop (mkF m 97 #[.val (.int p1), .val (.int p2), .val (.int p3), .val (.int p4), .val (.int p5), .val (.int (4 : Int32)), .val (.ref b114), .val (.ref b135)] []))
    refine Go.on (fun t k => XS.aload X135.here hx rfl (hb hby at_97) rfl rfl k) ?_
    show Go p.tables e below s _ _ _ (T135.setTop (mkF m 99 #[.val (.int p1), .val (.int p2), .val (.int p3), .val (.int p4), .val (.int p5), .val (.int (4 : Int32)), .val (.ref b114), .val (.ref b135)] [(.ref b135)]))
    refine Go.on (fun t k => XS.iload X135.here hx rfl (hb hby at_99) rfl k) ?_
    show Go p.tables e below s _ _ _ (T135.setTop (mkF m 101 #[.val (.int p1), .val (.int p2), .val (.int p3), .val (.int p4), .val (.int p5), .val (.int (4 : Int32)), .val (.ref b114), .val (.ref b135)] [(.int (4 : Int32)), (.ref b135)]))
    refine Go.on (fun t k => XS.iconst X135.here hx rfl (hb hby at_101) k) ?_
    show Go p.tables e below s _ _ _ (T135.setTop (mkF m 102 #[.val (.int p1), .val (.int p2), .val (.int p3), .val (.int p4), .val (.int p5), .val (.int (4 : Int32)), .val (.ref b114), .val (.ref b135)] [(.int (1 : Int32)), (.int (4 : Int32)), (.ref b135)]))
    refine Go.on (fun t k => XS.iadd X135.here hx rfl (hb hby at_102) rfl k) ?_
    show Go p.tables e below s _ _ _ (T135.setTop (mkF m 103 #[.val (.int p1), .val (.int p2), .val (.int p3), .val (.int p4), .val (.int p5), .val (.int (4 : Int32)), .val (.ref b114), .val (.ref b135)] [(.int (5 : Int32)), (.ref b135)]))
    obtain ⟨cl142, Ar142, q142, S142, M142, H142, G142⟩ := id P135_2
    have hin142 : ¬ ((5 : Int32) < 0 ∨ cl142.slots.size ≤ ((5 : Int32)).toNatClampNeg) := inb_of S142 ⟨by decide, by decide⟩
    have hat142 : cl142.slots[((5 : Int32)).toNatClampNeg]? = some (.int (28 : Int32)) := H142.at hin142 rfl
    refine Go.on (fun t k => X135.baloadBytes hx (j := (5 : Int32)) (v := (.int (28 : Int32))) Ar142.1 (State.isArrayOf_alike hZ.alike Ar142.2.1) Ar142.2.2 hin142 hat142 (g := (mkF m 103 #[.val (.int p1), .val (.int p2), .val (.int p3), .val (.int p4), .val (.int p5), .val (.int (4 : Int32)), .val (.ref b114), .val (.ref b135)] [(.int (5 : Int32)), (.ref b135)])) rfl rfl (hb hby at_103) t k) ?_
    show Go p.tables e below s _ _ _ (T135.setTop (mkF m 104 #[.val (.int p1), .val (.int p2), .val (.int p3), .val (.int p4), .val (.int p5), .val (.int (4 : Int32)), .val (.ref b114), .val (.ref b135)] [(.int (28 : Int32))]))
    refine Go.on (fun t k => XS.bipush X135.here hx rfl (hb hby at_104) k) ?_
    show Go p.tables e below s _ _ _ (T135.setTop (mkF m 106 #[.val (.int p1), .val (.int p2), .val (.int p3), .val (.int p4), .val (.int p5), .val (.int (4 : Int32)), .val (.ref b114), .val (.ref b135)] [(.int (28 : Int32)), (.int (28 : Int32))]))
    refine Go.on (fun t k => XS.icmpNo X135.here hx rfl (hb hby at_106) rfl (teq (by decide : (28 : Int32) = (28 : Int32))).2 k) ?_
    show Go p.tables e below s _ _ _ (T135.setTop (mkF m 109 #[.val (.int p1), .val (.int p2), .val (.int p3), .val (.int p4), .val (.int p5), .val (.int (4 : Int32)), .val (.ref b114), .val (.ref b135)] []))
    refine Go.on (fun t k => XS.aload X135.here hx rfl (hb hby at_109) rfl rfl k) ?_
    show Go p.tables e below s _ _ _ (T135.setTop (mkF m 111 #[.val (.int p1), .val (.int p2), .val (.int p3), .val (.int p4), .val (.int p5), .val (.int (4 : Int32)), .val (.ref b114), .val (.ref b135)] [(.ref b135)]))
    refine Go.on (fun t k => XS.iload X135.here hx rfl (hb hby at_111) rfl k) ?_
    show Go p.tables e below s _ _ _ (T135.setTop (mkF m 113 #[.val (.int p1), .val (.int p2), .val (.int p3), .val (.int p4), .val (.int p5), .val (.int (4 : Int32)), .val (.ref b114), .val (.ref b135)] [(.int (4 : Int32)), (.ref b135)]))
    refine Go.on (fun t k => XS.iconst X135.here hx rfl (hb hby at_113) k) ?_
    show Go p.tables e below s _ _ _ (T135.setTop (mkF m 114 #[.val (.int p1), .val (.int p2), .val (.int p3), .val (.int p4), .val (.int p5), .val (.int (4 : Int32)), .val (.ref b114), .val (.ref b135)] [(.int (2 : Int32)), (.int (4 : Int32)), (.ref b135)]))
    refine Go.on (fun t k => XS.iadd X135.here hx rfl (hb hby at_114) rfl k) ?_
    show Go p.tables e below s _ _ _ (T135.setTop (mkF m 115 #[.val (.int p1), .val (.int p2), .val (.int p3), .val (.int p4), .val (.int p5), .val (.int (4 : Int32)), .val (.ref b114), .val (.ref b135)] [(.int (6 : Int32)), (.ref b135)]))
    obtain ⟨cl143, Ar143, q143, S143, M143, H143, G143⟩ := id P135_2
    have hin143 : ¬ ((6 : Int32) < 0 ∨ cl143.slots.size ≤ ((6 : Int32)).toNatClampNeg) := inb_of S143 ⟨by decide, by decide⟩
    have hat143 : cl143.slots[((6 : Int32)).toNatClampNeg]? = some (.int (13 : Int32)) := H143.at hin143 rfl
    refine Go.on (fun t k => X135.baloadBytes hx (j := (6 : Int32)) (v := (.int (13 : Int32))) Ar143.1 (State.isArrayOf_alike hZ.alike Ar143.2.1) Ar143.2.2 hin143 hat143 (g := (mkF m 115 #[.val (.int p1), .val (.int p2), .val (.int p3), .val (.int p4), .val (.int p5), .val (.int (4 : Int32)), .val (.ref b114), .val (.ref b135)] [(.int (6 : Int32)), (.ref b135)])) rfl rfl (hb hby at_115) t k) ?_
    show Go p.tables e below s _ _ _ (T135.setTop (mkF m 116 #[.val (.int p1), .val (.int p2), .val (.int p3), .val (.int p4), .val (.int p5), .val (.int (4 : Int32)), .val (.ref b114), .val (.ref b135)] [(.int (13 : Int32))]))
    refine Go.on (fun t k => XS.bipush X135.here hx rfl (hb hby at_116) k) ?_
    show Go p.tables e below s _ _ _ (T135.setTop (mkF m 118 #[.val (.int p1), .val (.int p2), .val (.int p3), .val (.int p4), .val (.int p5), .val (.int (4 : Int32)), .val (.ref b114), .val (.ref b135)] [(.int (13 : Int32)), (.int (13 : Int32))]))
    refine Go.on (fun t k => XS.icmpYes X135.here hx rfl (pc0 := 118) (pc' := 123) rfl (hb hby at_118) rfl (teq (by decide : (13 : Int32) = (13 : Int32))).1 (by decide) (by decide) k) ?_
    show Go p.tables e below s _ _ _ (T135.setTop (mkF m 123 #[.val (.int p1), .val (.int p2), .val (.int p3), .val (.int p4), .val (.int p5), .val (.int (4 : Int32)), .val (.ref b114), .val (.ref b135)] []))
    refine Go.on (fun t k => XS.aload X135.here hx rfl (hb hby at_123) rfl rfl k) ?_
    show Go p.tables e below s _ _ _ (T135.setTop (mkF m 125 #[.val (.int p1), .val (.int p2), .val (.int p3), .val (.int p4), .val (.int p5), .val (.int (4 : Int32)), .val (.ref b114), .val (.ref b135)] [(.ref b135)]))
    refine Go.on (fun t k => XS.aload X135.here hx rfl (hb hby at_125) rfl rfl k) ?_
    show Go p.tables e below s _ _ _ (T135.setTop (mkF m 127 #[.val (.int p1), .val (.int p2), .val (.int p3), .val (.int p4), .val (.int p5), .val (.int (4 : Int32)), .val (.ref b114), .val (.ref b135)] [(.ref b114), (.ref b135)]))
    refine Go.on (fun t k => XS.iconst X135.here hx rfl (hb hby at_127) k) ?_
    show Go p.tables e below s _ _ _ (T135.setTop (mkF m 128 #[.val (.int p1), .val (.int p2), .val (.int p3), .val (.int p4), .val (.int p5), .val (.int (4 : Int32)), .val (.ref b114), .val (.ref b135)] [(.int (0 : Int32)), (.ref b114), (.ref b135)]))
    refine Go.on (fun t k => XS.iloadN X135.here hx rfl (hb hby at_128) rfl k) ?_
    show Go p.tables e below s _ _ _ (T135.setTop (mkF m 129 #[.val (.int p1), .val (.int p2), .val (.int p3), .val (.int p4), .val (.int p5), .val (.int (4 : Int32)), .val (.ref b114), .val (.ref b135)] [(.int p2), (.int (0 : Int32)), (.ref b114), (.ref b135)]))
    obtain ⟨_, _, ⟨T144, L144, k144, n144⟩, -, X144, ⟨Lc144, hQ144, l144, y144, z144⟩, st144⟩ := Jvm.LawKit.callS X135 hx (y := (⟨"com/example/rhythmwire/rhythmwire/hl7/MllpFramePinLaw", "slot", "([B[BII)Z"⟩ : MethodName)) hown (mvT hZ (hw _ (List.mem_of_getElem? (i := 10) rfl))) (mvT hZ (hw _ (List.mem_of_getElem? (i := 11) rfl))) (mvT hZ (hw _ (List.mem_of_getElem? (i := 12) rfl))) (mvT hZ (hw _ (List.mem_of_getElem? (i := 13) rfl))) (by decide) (backOf (W := 0) (rm2i l Z a0 hw [] b135 b114 (0 : Int32) p2 kb135 k114 (7 : Int32) (4 : Int32) ([(.int (11 : Int32)), (.int p2.toInt8.toInt32), (.int p3.toInt8.toInt32), (.int p4.toInt8.toInt32), (.int p5.toInt8.toInt32), (.int (28 : Int32)), (.int (13 : Int32))]) ([(.int (p2.toInt8.toInt32)), (.int (p3.toInt8.toInt32)), (.int (p4.toInt8.toInt32)), (.int (p5.toInt8.toInt32))]) T135.heap n0 Zp137 P135_2 Vb114_136 ⟨by decide, by decide⟩ ⟨by decide, by decide⟩ rfl rfl) hZ (hw _ (List.mem_of_getElem? (i := 13) rfl)) (hw _ (List.mem_of_getElem? (i := 12) rfl)) (by decide) (by decide)) (g := (mkF m 129 #[.val (.int p1), .val (.int p2), .val (.int p3), .val (.int p4), .val (.int p5), .val (.int (4 : Int32)), .val (.ref b114), .val (.ref b135)] [(.int p2), (.int (0 : Int32)), (.ref b114), (.ref b135)])) rfl (by rw [hml]; rfl) (argsL := [(.ref b135), (.ref b114), (.int (0 : Int32)), (.int p2)]) (rest := []) (lenOf pd__40__91_B_91_BII_41_Z rfl) rfl (by show 2 * 0 + _ ≤ _; exact Nat.le_of_eq rfl) (hb hby at_129) (fun _ _ => ⟨rfl, rfl, (by decide : ((0 + 1) + 1) + 0 ≤ _), (by decide : ((0 + 4) + 7) + 0 ≤ _)⟩)
    dsimp only [Pt.U, Pt.locs, Pt.cells, Pt.slots] at X144 l144 y144 z144 st144 hQ144
    subst l144 y144 z144
    obtain ⟨rfl, Nq144, e144⟩ := hQ144
    have Np145 := Fr.app Np139 Nq144
    refine Go.on st144 ?_
    show Go p.tables e below s _ _ _ (T144.setTop (mkF m 132 #[.val (.int p1), .val (.int p2), .val (.int p3), .val (.int p4), .val (.int p5), .val (.int (4 : Int32)), .val (.ref b114), .val (.ref b135)] [(.int (1 : Int32))]))
    refine Go.on (fun t k => XS.ifNo X144.here hx rfl (hb hby at_132) rfl ((if0 _ _).trans (feq (by decide : ¬ ((1 : Int32) = (0 : Int32)))).1) k) ?_
    show Go p.tables e below s _ _ _ (T144.setTop (mkF m 135 #[.val (.int p1), .val (.int p2), .val (.int p3), .val (.int p4), .val (.int p5), .val (.int (4 : Int32)), .val (.ref b114), .val (.ref b135)] []))
    refine Go.on (fun t k => XS.aload X144.here hx rfl (hb hby at_135) rfl rfl k) ?_
    show Go p.tables e below s _ _ _ (T144.setTop (mkF m 137 #[.val (.int p1), .val (.int p2), .val (.int p3), .val (.int p4), .val (.int p5), .val (.int (4 : Int32)), .val (.ref b114), .val (.ref b135)] [(.ref b135)]))
    refine Go.on (fun t k => XS.aload X144.here hx rfl (hb hby at_137) rfl rfl k) ?_
    show Go p.tables e below s _ _ _ (T144.setTop (mkF m 139 #[.val (.int p1), .val (.int p2), .val (.int p3), .val (.int p4), .val (.int p5), .val (.int (4 : Int32)), .val (.ref b114), .val (.ref b135)] [(.ref b114), (.ref b135)]))
    refine Go.on (fun t k => XS.iconst X144.here hx rfl (hb hby at_139) k) ?_
    show Go p.tables e below s _ _ _ (T144.setTop (mkF m 140 #[.val (.int p1), .val (.int p2), .val (.int p3), .val (.int p4), .val (.int p5), .val (.int (4 : Int32)), .val (.ref b114), .val (.ref b135)] [(.int (1 : Int32)), (.ref b114), (.ref b135)]))
    refine Go.on (fun t k => XS.iloadN X144.here hx rfl (hb hby at_140) rfl k) ?_
    show Go p.tables e below s _ _ _ (T144.setTop (mkF m 141 #[.val (.int p1), .val (.int p2), .val (.int p3), .val (.int p4), .val (.int p5), .val (.int (4 : Int32)), .val (.ref b114), .val (.ref b135)] [(.int p3), (.int (1 : Int32)), (.ref b114), (.ref b135)]))
    obtain ⟨_, _, ⟨T146, L146, k146, n146⟩, -, X146, ⟨Lc146, hQ146, l146, y146, z146⟩, st146⟩ := Jvm.LawKit.callS X144 hx (y := (⟨"com/example/rhythmwire/rhythmwire/hl7/MllpFramePinLaw", "slot", "([B[BII)Z"⟩ : MethodName)) hown (mvT hZ (hw _ (List.mem_of_getElem? (i := 10) rfl))) (mvT hZ (hw _ (List.mem_of_getElem? (i := 11) rfl))) (mvT hZ (hw _ (List.mem_of_getElem? (i := 12) rfl))) (mvT hZ (hw _ (List.mem_of_getElem? (i := 13) rfl))) (by decide) (backOf (W := 0) (rm2i l Z a0 hw [] b135 b114 (1 : Int32) p3 kb135 k114 (7 : Int32) (4 : Int32) ([(.int (11 : Int32)), (.int p2.toInt8.toInt32), (.int p3.toInt8.toInt32), (.int p4.toInt8.toInt32), (.int p5.toInt8.toInt32), (.int (28 : Int32)), (.int (13 : Int32))]) ([(.int (p2.toInt8.toInt32)), (.int (p3.toInt8.toInt32)), (.int (p4.toInt8.toInt32)), (.int (p5.toInt8.toInt32))]) T135.heap n0 Zp137 P135_2 Vb114_136 ⟨by decide, by decide⟩ ⟨by decide, by decide⟩ rfl rfl) hZ (hw _ (List.mem_of_getElem? (i := 13) rfl)) (hw _ (List.mem_of_getElem? (i := 12) rfl)) (by decide) (by decide)) (g := (mkF m 141 #[.val (.int p1), .val (.int p2), .val (.int p3), .val (.int p4), .val (.int p5), .val (.int (4 : Int32)), .val (.ref b114), .val (.ref b135)] [(.int p3), (.int (1 : Int32)), (.ref b114), (.ref b135)])) rfl (by rw [hml]; rfl) (argsL := [(.ref b135), (.ref b114), (.int (1 : Int32)), (.int p3)]) (rest := []) (lenOf pd__40__91_B_91_BII_41_Z rfl) rfl (by show 2 * 0 + _ ≤ _; exact Nat.le_of_eq rfl) (hb hby at_141) (fun _ _ => ⟨rfl, e144, (by decide : (((0 + 1) + 1) + 0) + 0 ≤ _), (by decide : (((0 + 4) + 7) + 0) + 0 ≤ _)⟩)
    dsimp only [Pt.U, Pt.locs, Pt.cells, Pt.slots] at X146 l146 y146 z146 st146 hQ146
    subst l146 y146 z146
    obtain ⟨rfl, Nq146, e146⟩ := hQ146
    have Np147 := Fr.app Np145 Nq146
    refine Go.on st146 ?_
    show Go p.tables e below s _ _ _ (T146.setTop (mkF m 144 #[.val (.int p1), .val (.int p2), .val (.int p3), .val (.int p4), .val (.int p5), .val (.int (4 : Int32)), .val (.ref b114), .val (.ref b135)] [(.int (1 : Int32))]))
    refine Go.on (fun t k => XS.ifNo X146.here hx rfl (hb hby at_144) rfl ((if0 _ _).trans (feq (by decide : ¬ ((1 : Int32) = (0 : Int32)))).1) k) ?_
    show Go p.tables e below s _ _ _ (T146.setTop (mkF m 147 #[.val (.int p1), .val (.int p2), .val (.int p3), .val (.int p4), .val (.int p5), .val (.int (4 : Int32)), .val (.ref b114), .val (.ref b135)] []))
    refine Go.on (fun t k => XS.aload X146.here hx rfl (hb hby at_147) rfl rfl k) ?_
    show Go p.tables e below s _ _ _ (T146.setTop (mkF m 149 #[.val (.int p1), .val (.int p2), .val (.int p3), .val (.int p4), .val (.int p5), .val (.int (4 : Int32)), .val (.ref b114), .val (.ref b135)] [(.ref b135)]))
    refine Go.on (fun t k => XS.aload X146.here hx rfl (hb hby at_149) rfl rfl k) ?_
    show Go p.tables e below s _ _ _ (T146.setTop (mkF m 151 #[.val (.int p1), .val (.int p2), .val (.int p3), .val (.int p4), .val (.int p5), .val (.int (4 : Int32)), .val (.ref b114), .val (.ref b135)] [(.ref b114), (.ref b135)]))
    refine Go.on (fun t k => XS.iconst X146.here hx rfl (hb hby at_151) k) ?_
    show Go p.tables e below s _ _ _ (T146.setTop (mkF m 152 #[.val (.int p1), .val (.int p2), .val (.int p3), .val (.int p4), .val (.int p5), .val (.int (4 : Int32)), .val (.ref b114), .val (.ref b135)] [(.int (2 : Int32)), (.ref b114), (.ref b135)]))
    refine Go.on (fun t k => XS.iloadN X146.here hx rfl (hb hby at_152) rfl k) ?_
    show Go p.tables e below s _ _ _ (T146.setTop (mkF m 153 #[.val (.int p1), .val (.int p2), .val (.int p3), .val (.int p4), .val (.int p5), .val (.int (4 : Int32)), .val (.ref b114), .val (.ref b135)] [(.int p4), (.int (2 : Int32)), (.ref b114), (.ref b135)]))
    obtain ⟨_, _, ⟨T148, L148, k148, n148⟩, -, X148, ⟨Lc148, hQ148, l148, y148, z148⟩, st148⟩ := Jvm.LawKit.callS X146 hx (y := (⟨"com/example/rhythmwire/rhythmwire/hl7/MllpFramePinLaw", "slot", "([B[BII)Z"⟩ : MethodName)) hown (mvT hZ (hw _ (List.mem_of_getElem? (i := 10) rfl))) (mvT hZ (hw _ (List.mem_of_getElem? (i := 11) rfl))) (mvT hZ (hw _ (List.mem_of_getElem? (i := 12) rfl))) (mvT hZ (hw _ (List.mem_of_getElem? (i := 13) rfl))) (by decide) (backOf (W := 0) (rm2i l Z a0 hw [] b135 b114 (2 : Int32) p4 kb135 k114 (7 : Int32) (4 : Int32) ([(.int (11 : Int32)), (.int p2.toInt8.toInt32), (.int p3.toInt8.toInt32), (.int p4.toInt8.toInt32), (.int p5.toInt8.toInt32), (.int (28 : Int32)), (.int (13 : Int32))]) ([(.int (p2.toInt8.toInt32)), (.int (p3.toInt8.toInt32)), (.int (p4.toInt8.toInt32)), (.int (p5.toInt8.toInt32))]) T135.heap n0 Zp137 P135_2 Vb114_136 ⟨by decide, by decide⟩ ⟨by decide, by decide⟩ rfl rfl) hZ (hw _ (List.mem_of_getElem? (i := 13) rfl)) (hw _ (List.mem_of_getElem? (i := 12) rfl)) (by decide) (by decide)) (g := (mkF m 153 #[.val (.int p1), .val (.int p2), .val (.int p3), .val (.int p4), .val (.int p5), .val (.int (4 : Int32)), .val (.ref b114), .val (.ref b135)] [(.int p4), (.int (2 : Int32)), (.ref b114), (.ref b135)])) rfl (by rw [hml]; rfl) (argsL := [(.ref b135), (.ref b114), (.int (2 : Int32)), (.int p4)]) (rest := []) (lenOf pd__40__91_B_91_BII_41_Z rfl) rfl (by show 2 * 0 + _ ≤ _; exact Nat.le_of_eq rfl) (hb hby at_153) (fun _ _ => ⟨rfl, e146, (by decide : ((((0 + 1) + 1) + 0) + 0) + 0 ≤ _), (by decide : ((((0 + 4) + 7) + 0) + 0) + 0 ≤ _)⟩)
    dsimp only [Pt.U, Pt.locs, Pt.cells, Pt.slots] at X148 l148 y148 z148 st148 hQ148
    subst l148 y148 z148
    obtain ⟨rfl, Nq148, e148⟩ := hQ148
    have Np149 := Fr.app Np147 Nq148
    refine Go.on st148 ?_
    show Go p.tables e below s _ _ _ (T148.setTop (mkF m 156 #[.val (.int p1), .val (.int p2), .val (.int p3), .val (.int p4), .val (.int p5), .val (.int (4 : Int32)), .val (.ref b114), .val (.ref b135)] [(.int (1 : Int32))]))
    refine Go.on (fun t k => XS.ifNo X148.here hx rfl (hb hby at_156) rfl ((if0 _ _).trans (feq (by decide : ¬ ((1 : Int32) = (0 : Int32)))).1) k) ?_
    show Go p.tables e below s _ _ _ (T148.setTop (mkF m 159 #[.val (.int p1), .val (.int p2), .val (.int p3), .val (.int p4), .val (.int p5), .val (.int (4 : Int32)), .val (.ref b114), .val (.ref b135)] []))
    refine Go.on (fun t k => XS.aload X148.here hx rfl (hb hby at_159) rfl rfl k) ?_
    show Go p.tables e below s _ _ _ (T148.setTop (mkF m 161 #[.val (.int p1), .val (.int p2), .val (.int p3), .val (.int p4), .val (.int p5), .val (.int (4 : Int32)), .val (.ref b114), .val (.ref b135)] [(.ref b135)]))
    refine Go.on (fun t k => XS.aload X148.here hx rfl (hb hby at_161) rfl rfl k) ?_
    show Go p.tables e below s _ _ _ (T148.setTop (mkF m 163 #[.val (.int p1), .val (.int p2), .val (.int p3), .val (.int p4), .val (.int p5), .val (.int (4 : Int32)), .val (.ref b114), .val (.ref b135)] [(.ref b114), (.ref b135)]))
    refine Go.on (fun t k => XS.iconst X148.here hx rfl (hb hby at_163) k) ?_
    show Go p.tables e below s _ _ _ (T148.setTop (mkF m 164 #[.val (.int p1), .val (.int p2), .val (.int p3), .val (.int p4), .val (.int p5), .val (.int (4 : Int32)), .val (.ref b114), .val (.ref b135)] [(.int (3 : Int32)), (.ref b114), (.ref b135)]))
    refine Go.on (fun t k => XS.iload X148.here hx rfl (hb hby at_164) rfl k) ?_
    show Go p.tables e below s _ _ _ (T148.setTop (mkF m 166 #[.val (.int p1), .val (.int p2), .val (.int p3), .val (.int p4), .val (.int p5), .val (.int (4 : Int32)), .val (.ref b114), .val (.ref b135)] [(.int p5), (.int (3 : Int32)), (.ref b114), (.ref b135)]))
    obtain ⟨_, _, ⟨T150, L150, k150, n150⟩, -, X150, ⟨Lc150, hQ150, l150, y150, z150⟩, st150⟩ := Jvm.LawKit.callS X148 hx (y := (⟨"com/example/rhythmwire/rhythmwire/hl7/MllpFramePinLaw", "slot", "([B[BII)Z"⟩ : MethodName)) hown (mvT hZ (hw _ (List.mem_of_getElem? (i := 10) rfl))) (mvT hZ (hw _ (List.mem_of_getElem? (i := 11) rfl))) (mvT hZ (hw _ (List.mem_of_getElem? (i := 12) rfl))) (mvT hZ (hw _ (List.mem_of_getElem? (i := 13) rfl))) (by decide) (backOf (W := 0) (rm2i l Z a0 hw [] b135 b114 (3 : Int32) p5 kb135 k114 (7 : Int32) (4 : Int32) ([(.int (11 : Int32)), (.int p2.toInt8.toInt32), (.int p3.toInt8.toInt32), (.int p4.toInt8.toInt32), (.int p5.toInt8.toInt32), (.int (28 : Int32)), (.int (13 : Int32))]) ([(.int (p2.toInt8.toInt32)), (.int (p3.toInt8.toInt32)), (.int (p4.toInt8.toInt32)), (.int (p5.toInt8.toInt32))]) T135.heap n0 Zp137 P135_2 Vb114_136 ⟨by decide, by decide⟩ ⟨by decide, by decide⟩ rfl rfl) hZ (hw _ (List.mem_of_getElem? (i := 13) rfl)) (hw _ (List.mem_of_getElem? (i := 12) rfl)) (by decide) (by decide)) (g := (mkF m 166 #[.val (.int p1), .val (.int p2), .val (.int p3), .val (.int p4), .val (.int p5), .val (.int (4 : Int32)), .val (.ref b114), .val (.ref b135)] [(.int p5), (.int (3 : Int32)), (.ref b114), (.ref b135)])) rfl (by rw [hml]; rfl) (argsL := [(.ref b135), (.ref b114), (.int (3 : Int32)), (.int p5)]) (rest := []) (lenOf pd__40__91_B_91_BII_41_Z rfl) rfl (by show 2 * 0 + _ ≤ _; exact Nat.le_of_eq rfl) (hb hby at_166) (fun _ _ => ⟨rfl, e148, (by decide : (((((0 + 1) + 1) + 0) + 0) + 0) + 0 ≤ _), (by decide : (((((0 + 4) + 7) + 0) + 0) + 0) + 0 ≤ _)⟩)
    dsimp only [Pt.U, Pt.locs, Pt.cells, Pt.slots] at X150 l150 y150 z150 st150 hQ150
    subst l150 y150 z150
    obtain ⟨rfl, Nq150, e150⟩ := hQ150
    have Np151 := Fr.app Np149 Nq150
    refine Go.on st150 ?_
    show Go p.tables e below s _ _ _ (T150.setTop (mkF m 169 #[.val (.int p1), .val (.int p2), .val (.int p3), .val (.int p4), .val (.int p5), .val (.int (4 : Int32)), .val (.ref b114), .val (.ref b135)] [(.int (1 : Int32))]))
    refine Go.on (fun t k => XS.ifNo X150.here hx rfl (hb hby at_169) rfl ((if0 _ _).trans (feq (by decide : ¬ ((1 : Int32) = (0 : Int32)))).1) k) ?_
    show Go p.tables e below s _ _ _ (T150.setTop (mkF m 172 #[.val (.int p1), .val (.int p2), .val (.int p3), .val (.int p4), .val (.int p5), .val (.int (4 : Int32)), .val (.ref b114), .val (.ref b135)] []))
    refine Go.on (fun t k => XS.iconst X150.here hx rfl (hb hby at_172) k) ?_
    show Go p.tables e below s _ _ _ (T150.setTop (mkF m 173 #[.val (.int p1), .val (.int p2), .val (.int p3), .val (.int p4), .val (.int p5), .val (.int (4 : Int32)), .val (.ref b114), .val (.ref b135)] [(.int (1 : Int32))]))
    refine Go.on (fun t k => XS.goto X150.here hx rfl (pc0 := 173) (pc' := 177) rfl (hb hby at_173) (by decide) (by decide) k) ?_
    show Go p.tables e below s _ _ _ (T150.setTop (mkF m 177 #[.val (.int p1), .val (.int p2), .val (.int p3), .val (.int p4), .val (.int p5), .val (.int (4 : Int32)), .val (.ref b114), .val (.ref b135)] [(.int (1 : Int32))]))
    refine Go.retN X150 hx hlk (t := .boolean) Bd.returns (by simp) (hb hby at_177) (by decide) (by decide) e150 ?_
    exact ⟨rfl, Np151⟩
set_option maxRecDepth 65536 in
set_option maxHeartbeats 40000000 in
theorem comes_1 {Post : Tables → Env → Array Value → State → Outcome → State → Prop} (hpost : ∀ tb e args s v u, (limb_1_1.after args s (.returned v) u = true ∧ limb_1_2.after args s (.returned v) u = true ∧ True) → FrameEnd s (.returned v) u (Jvm.fieldLocs frame_1_writes args s ++ Jvm.arrayLocs frame_1_arrays args s ++ Jvm.staticLocs frame_1_statics s) 16 128 → Post tb e args s (.returned v) u) :
    ArmFor flags0 classFile x code maxLocals ret World_1 tables_1 room_1 Calls_1 rest_1 Pre_1 Post := by
  intro l hfl _ _ p e ha hc hk s m args below hf hA hF happ hP
  obtain ⟨hcalls, hrest, hpre⟩ := hP
  obtain ⟨-, -, -, hnamed, -, -, -, hat⟩ := (Spec.applies_iff hf).mp happ
  obtain ⟨hg, hn⟩ := and_e (Cond.before_iff.mp (show (Jvm.Cond.and given_1 narrow_1).before args s = true from hpre))
  obtain ⟨gg1, gg2⟩ := and_e hg
  obtain ⟨gg3, gg4⟩ := and_e gg2
  obtain ⟨gg5, gg6⟩ := and_e gg4
  obtain ⟨gg7, gg8⟩ := and_e gg6
  obtain ⟨gg9, gg10⟩ := and_e gg8
  obtain ⟨w0, w1, w2, w3, w4, rfl⟩ : ∃ w0 w1 w2 w3 w4 : Value, args = #[w0, w1, w2, w3, w4] := by
    have hs : args.size = 5 := by simpa [Cond.value, given_1] using gg1
    obtain ⟨L⟩ := args
    match L, hs with
    | [w0, w1, w2, w3, w4], _ => exact ⟨w0, w1, w2, w3, w4, rfl⟩
  have hw := fun d (hd : d ∈ tables_1) => atoms_spec (ws := Jvm.Cond.code x code maxLocals ret :: tables_1) hat d (List.mem_cons_of_mem _ hd)
  have hfit : Fit s := fun {y c} hc i hi => by
    obtain ⟨ha, rfl⟩ := Array.getElem?_eq_some_iff.mp hc
    have q := List.all_eq_true.mp ((Array.all_eq_true_iff_forall_mem.mp hF) _ (Array.getElem_mem ha)) i (List.mem_range.mpr hi)
    simpa [Array.getElem?_eq_getElem hi] using q
  obtain ⟨i0, ei0⟩ := is_v gg3
  obtain rfl : w0 = (.int i0) := Option.some.inj ei0
  obtain ⟨i1, ei1⟩ := is_v gg5
  obtain rfl : w1 = (.int i1) := Option.some.inj ei1
  obtain ⟨i2, ei2⟩ := is_v gg7
  obtain rfl : w2 = (.int i2) := Option.some.inj ei2
  obtain ⟨i3, ei3⟩ := is_v gg9
  obtain rfl : w3 = (.int i3) := Option.some.inj ei3
  obtain ⟨i4, ei4⟩ := is_v gg10
  obtain rfl : w4 = (.int i4) := Option.some.inj ei4
  obtain ⟨n, o, h1, h2, h3, _, L, rfl, ⟨rfl, N⟩, hq⟩ := rm0 l s _ hw tables_1 i0 i1 i2 i3 i4  s.heap s.heap.size (Nat.le_refl _)  p e ha hc hk s m _ below hf ((Spec.applies_iff_loose hf).mp happ).1 ⟨rfl, State.Warmed39.refl s, rfl⟩ trivial
  refine ⟨n, _, h1, h2, h3, hpost _ _ _ _ _ _ ⟨Cond.after_iff.mpr rfl, Cond.after_iff.mpr (eq_i res_at (Term.int_eval (1)) rfl), trivial⟩ ⟨hq.1, hq.2.1, (hq.2.2.sift fun y hy => Or.inr (N y hy)).mono (by decide) (by decide)⟩⟩
theorem main_1_1 : Claimed_1_1 := comes_1 fun _ _ _ _ _ _ h hF => ⟨h.1, hF⟩
theorem main_1_2 : Claimed_1_2 := comes_1 fun _ _ _ _ _ _ h hF => ⟨h.2.1, hF⟩
end Jvm.Pilot.@@N@@
namespace Jvm.Pilot.@@N@@
open Jvm Jvm.ClassFile Sem Op Lib Jvm.Free Jvm.Stand Jvm.Pilot.@@N@@.Jvm.D
/-! MADE BY PROGRAM (witnessworld.py) out of the Statement's table words and the real class files: 10 classes; the members and pool entries that the words name. The judged class is class 1, her method 1. -/
namespace start1
open Jvm.ClassFile
def u (s : String) : CpInfo := .utf8 (stringToUtf16 s)
/-- a pool by its gaps: so many unusable entries, then the entry; so many at the end -/
def gap : Nat → List CpInfo → List CpInfo
  | 0, r => r
  | n + 1, r => .unusable :: gap n r
def poolList (es : List (Nat × CpInfo)) (last : Nat) : List CpInfo := es.foldr (fun e r => gap e.1 (e.2 :: r)) (gap last [])
def pool (es : List (Nat × CpInfo)) (last : Nat) : Array CpInfo := ⟨poolList es last⟩
def fileOf (pool : Array CpInfo) (this : Nat) (attrs : Array Attribute := #[]) (ms : Array MethodInfo := #[]) (fl : Nat := 33) (sup : Nat := 0) (ifs : Array Nat := #[]) (fds : Array FieldInfo := #[]) : ClassFile where
  minorVersion := 0
  majorVersion := 65
  constantPool := pool
  accessFlags := fl
  thisClass := this
  superClass := sup
  interfaces := ifs
  fields := fds
  methods := ms
  attributes := attrs
def plain (name : String) (sup : Option ClassId) : Class where
  name := name
  kind := .ordinary
  loader := none
  accessFlags := 33
  super := sup
  interfaces := #[]
  cf := none
  fields := #[]
  methods := #[]
  instanceTypes := #[]
  staticTypes := #[]
  resolved := #[]
  callSites := []
  init := .initialized
  statics := none
  mirror := none

def pool0 : Array CpInfo := pool [(5, u "<init>"), (0, u "()V"), (1, .class_ 10), (1, u "java/lang/Object")] 113

def k0m0 : Method := { name := "<init>", desc := "()V", sig := { parameters := [], returnType := none }, accessFlags := 1, code := none }
/-- java/lang/Object -/
def k0 : Class := { plain "java/lang/Object" none with
  accessFlags := 33
  interfaces := #[]
  cf := some (fileOf pool0 8 #[] #[{ accessFlags := 1, nameIndex := 5, descriptorIndex := 6, attributes := #[] }] 33 0 #[] #[])
  fields := #[]
  methods := #[k0m0]
  instanceTypes := #[]
  staticTypes := #[]
  resolved := Array.replicate 124 none
  statics := none }

def pool1 : Array CpInfo := pool [(2, .class_ 4), (1, u "java/lang/Object"), (0, u "<init>"), (0, u "()V"), (0, .integer 2147483647), (0, .methodref 9 10), (0, .class_ 11), (0, .nameAndType 12 13), (0, u "com/example/rhythmwire/rhythmwire/hl7/Mllp"), (0, u "frame"), (0, u "([B)[B"), (0, .methodref 15 16), (0, .class_ 17), (0, .nameAndType 18 19), (0, u "com/example/rhythmwire/rhythmwire/hl7/MllpFramePinLaw"), (0, u "slot"), (0, u "([B[BII)Z"), (2, u "law"), (0, u "(IIIII)Z")] 5

def k1m0 : Method := { name := "<init>", desc := "()V", sig := { parameters := [], returnType := none }, accessFlags := 1, code := none }
def k1c1 : Code := { maxStack := 4, maxLocals := 8, code := code, exceptionTable := #[], attributes := #[] }
def k1m1 : Method := { name := "law", desc := "(IIIII)Z", sig := { parameters := [.int, .int, .int, .int, .int], returnType := some .boolean }, accessFlags := 9, code := some k1c1 }
def k1c2 : Code := { maxStack := 3, maxLocals := 4, code := method_3_code, exceptionTable := #[], attributes := #[] }
def k1m2 : Method := { name := "slot", desc := "([B[BII)Z", sig := { parameters := [(.array .byte), (.array .byte), .int, .int], returnType := some .boolean }, accessFlags := 10, code := some k1c2 }
/-- com/example/rhythmwire/rhythmwire/hl7/MllpFramePinLaw -/
def k1 : Class := { plain "com/example/rhythmwire/rhythmwire/hl7/MllpFramePinLaw" (some 0) with
  accessFlags := 49
  interfaces := #[]
  cf := some (fileOf pool1 15 #[] #[{ accessFlags := 1, nameIndex := 5, descriptorIndex := 6, attributes := #[] }, { accessFlags := 9, nameIndex := 22, descriptorIndex := 23, attributes := #[] }, { accessFlags := 10, nameIndex := 18, descriptorIndex := 19, attributes := #[] }] 49 2 #[] #[])
  fields := #[]
  methods := #[k1m0, k1m1, k1m2]
  instanceTypes := #[]
  staticTypes := #[]
  resolved := Array.replicate 29 none
  statics := none }

def pool2 : Array CpInfo := pool [(2, .class_ 4), (1, u "java/lang/Object"), (0, u "<init>"), (0, u "()V"), (0, .class_ 8), (0, u "com/example/rhythmwire/rhythmwire/hl7/Mllp"), (0, .methodref 10 11), (0, .class_ 12), (0, .nameAndType 13 14), (0, u "java/lang/System"), (0, u "arraycopy"), (0, u "(Ljava/lang/Object;ILjava/lang/Object;II)V"), (0, u "START_BLOCK"), (0, u "B"), (2, u "END_BLOCK"), (1, u "CARRIAGE_RETURN"), (3, u "frame"), (0, u "([B)[B")] 2

def k2m0 : Method := { name := "<init>", desc := "()V", sig := { parameters := [], returnType := none }, accessFlags := 2, code := none }
def k2c1 : Code := { maxStack := 5, maxLocals := 2, code := prog_23_method_2_code, exceptionTable := #[], attributes := #[] }
def k2m1 : Method := { name := "frame", desc := "([B)[B", sig := { parameters := [(.array .byte)], returnType := some (.array .byte) }, accessFlags := 9, code := some k2c1 }
/-- com/example/rhythmwire/rhythmwire/hl7/Mllp -/
def k2 : Class := { plain "com/example/rhythmwire/rhythmwire/hl7/Mllp" (some 0) with
  accessFlags := 49
  interfaces := #[]
  cf := some (fileOf pool2 7 #[] #[{ accessFlags := 2, nameIndex := 5, descriptorIndex := 6, attributes := #[] }, { accessFlags := 9, nameIndex := 25, descriptorIndex := 26, attributes := #[] }] 49 2 #[] #[{ accessFlags := 25, nameIndex := 15, descriptorIndex := 16, attributes := #[] }, { accessFlags := 25, nameIndex := 19, descriptorIndex := 16, attributes := #[] }, { accessFlags := 25, nameIndex := 21, descriptorIndex := 16, attributes := #[] }])
  fields := #[{ name := "START_BLOCK", type := .byte, accessFlags := 25, slot := 0, constantValue := 0 }, { name := "END_BLOCK", type := .byte, accessFlags := 25, slot := 1, constantValue := 0 }, { name := "CARRIAGE_RETURN", type := .byte, accessFlags := 25, slot := 2, constantValue := 0 }]
  methods := #[k2m0, k2m1]
  instanceTypes := #[]
  staticTypes := #[.byte, .byte, .byte]
  resolved := Array.replicate 29 none
  statics := none }

def pool3 : Array CpInfo := pool [(2, .class_ 4), (1, u "java/lang/Object"), (0, u "<init>"), (0, u "()V"), (1, .class_ 10), (1, u "java/lang/System"), (0, u "allowSecurityManager"), (0, u "I"), (16, u "cons"), (0, u "Ljava/io/Console;"), (77, .class_ 110), (1, u "java/lang/System$CallersHolder"), (43, u "initialErrStream"), (0, u "Ljava/io/PrintStream;"), (19, u "security"), (0, u "Ljava/lang/SecurityManager;"), (31, .class_ 209), (0, u "java/lang/System$1"), (7, u "props"), (0, u "Ljava/util/Properties;"), (2, u "lineSeparator"), (0, u "Ljava/lang/String;"), (96, .class_ 321), (1, u "java/lang/System$LoggerFinder"), (5, .class_ 328), (0, u "java/lang/System$Logger"), (67, u "err"), (2, u "out"), (91, u "notSupportedJnuEncoding"), (15, u "in"), (17, u "initialIn"), (0, u "Ljava/io/InputStream;"), (35, u "bootLayer"), (0, u "Ljava/lang/ModuleLayer;"), (99, .class_ 664), (0, u "java/lang/System$2"), (9, u "NEVER"), (2, u "MAYBE"), (49, u "arraycopy"), (0, u "(Ljava/lang/Object;ILjava/lang/Object;II)V"), (72, .class_ 802), (0, u "java/lang/System$Logger$Level")] 31

def k3m0 : Method := { name := "<init>", desc := "()V", sig := { parameters := [], returnType := none }, accessFlags := 2, code := none }
def k3m1 : Method := { name := "arraycopy", desc := "(Ljava/lang/Object;ILjava/lang/Object;II)V", sig := { parameters := [(.object "java/lang/Object"), .int, (.object "java/lang/Object"), .int, .int], returnType := none }, accessFlags := 265, code := none }
/-- java/lang/System -/
def k3 : Class := { plain "java/lang/System" (some 0) with
  accessFlags := 49
  interfaces := #[]
  cf := some (fileOf pool3 8 #[.nestMembers #[319, 327, 801, 108, 663, 208]] #[{ accessFlags := 2, nameIndex := 5, descriptorIndex := 6, attributes := #[] }, { accessFlags := 265, nameIndex := 727, descriptorIndex := 728, attributes := #[] }] 49 2 #[] #[{ accessFlags := 25, nameIndex := 507, descriptorIndex := 526, attributes := #[] }, { accessFlags := 25, nameIndex := 399, descriptorIndex := 155, attributes := #[] }, { accessFlags := 25, nameIndex := 396, descriptorIndex := 155, attributes := #[] }, { accessFlags := 10, nameIndex := 525, descriptorIndex := 526, attributes := #[] }, { accessFlags := 26, nameIndex := 674, descriptorIndex := 12, attributes := #[] }, { accessFlags := 26, nameIndex := 677, descriptorIndex := 12, attributes := #[] }, { accessFlags := 10, nameIndex := 11, descriptorIndex := 12, attributes := #[] }, { accessFlags := 74, nameIndex := 175, descriptorIndex := 176, attributes := #[] }, { accessFlags := 10, nameIndex := 491, descriptorIndex := 222, attributes := #[] }, { accessFlags := 74, nameIndex := 29, descriptorIndex := 30, attributes := #[] }, { accessFlags := 74, nameIndex := 154, descriptorIndex := 155, attributes := #[] }, { accessFlags := 10, nameIndex := 217, descriptorIndex := 218, attributes := #[] }, { accessFlags := 10, nameIndex := 221, descriptorIndex := 222, attributes := #[] }, { accessFlags := 8, nameIndex := 562, descriptorIndex := 563, attributes := #[] }])
  fields := #[{ name := "in", type := (.object "java/io/InputStream"), accessFlags := 25, slot := 0, constantValue := 0 }, { name := "out", type := (.object "java/io/PrintStream"), accessFlags := 25, slot := 1, constantValue := 0 }, { name := "err", type := (.object "java/io/PrintStream"), accessFlags := 25, slot := 2, constantValue := 0 }, { name := "initialIn", type := (.object "java/io/InputStream"), accessFlags := 10, slot := 3, constantValue := 0 }, { name := "NEVER", type := .int, accessFlags := 26, slot := 4, constantValue := 0 }, { name := "MAYBE", type := .int, accessFlags := 26, slot := 5, constantValue := 0 }, { name := "allowSecurityManager", type := .int, accessFlags := 10, slot := 6, constantValue := 0 }, { name := "security", type := (.object "java/lang/SecurityManager"), accessFlags := 74, slot := 7, constantValue := 0 }, { name := "notSupportedJnuEncoding", type := (.object "java/lang/String"), accessFlags := 10, slot := 8, constantValue := 0 }, { name := "cons", type := (.object "java/io/Console"), accessFlags := 74, slot := 9, constantValue := 0 }, { name := "initialErrStream", type := (.object "java/io/PrintStream"), accessFlags := 74, slot := 10, constantValue := 0 }, { name := "props", type := (.object "java/util/Properties"), accessFlags := 10, slot := 11, constantValue := 0 }, { name := "lineSeparator", type := (.object "java/lang/String"), accessFlags := 10, slot := 12, constantValue := 0 }, { name := "bootLayer", type := (.object "java/lang/ModuleLayer"), accessFlags := 8, slot := 13, constantValue := 0 }]
  methods := #[k3m0, k3m1]
  instanceTypes := #[]
  staticTypes := #[(.object "java/io/InputStream"), (.object "java/io/PrintStream"), (.object "java/io/PrintStream"), (.object "java/io/InputStream"), .int, .int, .int, (.object "java/lang/SecurityManager"), (.object "java/lang/String"), (.object "java/io/Console"), (.object "java/io/PrintStream"), (.object "java/util/Properties"), (.object "java/lang/String"), (.object "java/lang/ModuleLayer")]
  resolved := Array.replicate 834 none
  statics := none }

def pool4 : Array CpInfo := pool [(1, u "java/lang/Cloneable"), (0, .class_ 1), (0, u "java/lang/Object"), (0, .class_ 3)] 3

/-- java/lang/Cloneable -/
def k4 : Class := { plain "java/lang/Cloneable" (some 0) with
  accessFlags := 1537
  interfaces := #[]
  cf := some (fileOf pool4 2 #[] #[] 1537 4 #[] #[])
  fields := #[]
  methods := #[]
  instanceTypes := #[]
  staticTypes := #[]
  resolved := Array.replicate 8 none
  statics := none }

def pool5 : Array CpInfo := pool [(1, u "java/io/Serializable"), (0, .class_ 1), (0, u "java/lang/Object"), (0, .class_ 3)] 3

/-- java/io/Serializable -/
def k5 : Class := { plain "java/io/Serializable" (some 0) with
  accessFlags := 1537
  interfaces := #[]
  cf := some (fileOf pool5 2 #[] #[] 1537 4 #[] #[])
  fields := #[]
  methods := #[]
  instanceTypes := #[]
  staticTypes := #[]
  resolved := Array.replicate 8 none
  statics := none }

/-- the primitive byte -/
def k6 : Class := { plain "byte" none with kind := .primitive 'B', accessFlags := 0x411 }
/-- [B -/
def k7 : Class := { plain "[B" (some 0) with kind := .array 6 .byte, interfaces := #[4, 5], accessFlags := 1041 }

/-- the primitive int -/
def k8 : Class := { plain "int" none with kind := .primitive 'I', accessFlags := 0x411 }
/-- [I -/
def k9 : Class := { plain "[I" (some 0) with kind := .array 8 .int, interfaces := #[4, 5], accessFlags := 1041 }

def heap : Heap := #[]
def classes : Array Class := #[k0, k1, k2, k3, k4, k5, k6, k7, k8, k9]
def interned : List (Array UInt16 × Addr) := []
def slotsUsed : Nat := 0
def theMethod : MethodId := ⟨1, 1⟩
def args0 : Array Value := #[.int 3, .int 1, .int 2, .int 7, .int 3]
def aboutOver (below : List Frame) : State where
  vm := { classes := classes, interned := interned.toArray }
  heap := heap
  slotsUsed := slotsUsed
  threads := #[{ frames := .invoking theMethod args0 :: below }]
def below0 : List Frame := [.native { method := ⟨0, 0⟩, args := #[] }]
def about1 : State := aboutOver below0
def p0 : Program := .bare "" "" ""
def e0 : Env := launch0.env 0 0 0
theorem w_frames : about1.frames = Frame.invoking theMethod args0 :: below0 := rfl
set_option maxRecDepth 65536 in
theorem w_args : argsFit about1.vm theMethod args0 = true := by decide +kernel
set_option maxRecDepth 65536 in
theorem w_heap : heapFits about1 = true := by decide +kernel
set_option maxRecDepth 65536 in
theorem w_runnable : about1.curStatus? = some .runnable := by decide +kernel
set_option maxRecDepth 65536 in
theorem w_alone : about1.alone = true := by decide +kernel
set_option maxRecDepth 65536 in
theorem w_named : about1.methodNamed? x = some theMethod := by decide +kernel
set_option maxRecDepth 65536 in
theorem w_hears : about1.hears theMethod below0 = true := by decide +kernel
set_option maxRecDepth 65536 in
theorem w_ripe : about1.ripe theMethod args0 below0 = true := by decide +kernel
theorem w_running : about1.status = .running := rfl
set_option maxRecDepth 65536 in
theorem w_room : about1.hasRoom e0.platform room_1 = true :=
  launch0.hasRoom_least _ room_1 (by decide +kernel) (by decide +kernel) (by decide +kernel) (by decide +kernel) (by decide +kernel) (by decide +kernel)
theorem allAtoms_all (ts : List Jvm.Cond) (a : Array Jvm.Value) (st : Jvm.State) : (allAtoms ts).before a st = ts.all (fun c => c.before a st) := by
  induction ts with
  | nil => rfl
  | cons c t ih =>
    show (Jvm.Cond.and c (allAtoms t)).before a st = _
    rw [Jvm.Cond.before_and, ih, List.all_cons]
def words1 : List Jvm.Cond := Jvm.Cond.code x code maxLocals ret :: tables_1
/-- a 'code' word, met by the world's own term for the bytes: nothing is compared byte by byte -/
theorem code_word {y : MethodName} {bytes : ByteArray} {mx : Nat} {rt : Option FieldType} {a : Array Value} {s : State} {m : MethodId} {meth : Method} {c : Code} (h1 : s.methodNamed? y = some m) (h2 : s.vm.method? m = some meth) (h3 : meth.code = some c) (h4 : c.code = bytes)
    (h5 : (c.maxLocals == mx && c.exceptionTable.isEmpty && decide (c.maxStack ≤ mostOperands) && decide (meth.sig.returnType = rt) && !meth.locks && decide (parseMethodDescriptor y.desc = some meth.sig)) = true) : (Jvm.Cond.code y bytes mx rt).before a s = true := by
  simp only [Bool.and_eq_true, beq_iff_eq, Bool.not_eq_true', decide_eq_true_eq] at h5
  obtain ⟨⟨⟨⟨⟨g1, g2⟩, g3⟩, g4⟩, g5⟩, g6⟩ := h5
  simp [Cond.before, Cond.holds, Cond.value, h1, h2, h3, h4, g1, g2, g3, g4, g5, g6]
def isCode : Jvm.Cond → Bool
  | .code _ _ _ _ => true
  | _ => false
theorem all_split {L : List Jvm.Cond} {P : Jvm.Cond → Bool} (h1 : L.all (fun c => isCode c || P c) = true) (h2 : ∀ c ∈ L.filter isCode, P c = true) : L.all P = true := by
  refine List.all_eq_true.mpr fun c hc => ?_
  have h := List.all_eq_true.mp h1 c hc
  rcases Bool.eq_false_or_eq_true (isCode c) with hi | hi
  · exact h2 c (List.mem_filter.mpr ⟨hc, hi⟩)
  · simpa [hi] using h
set_option maxRecDepth 65536 in
theorem w_c0 : (Jvm.Cond.code x code maxLocals ret).before args0 about1 = true := code_word (m := ⟨1, 1⟩) (meth := k1m1) (c := k1c1) (by decide +kernel) rfl rfl rfl (by decide +kernel)
set_option maxRecDepth 65536 in
theorem w_c1 : (Jvm.Cond.code ({ cls := "com/example/rhythmwire/rhythmwire/hl7/Mllp", name := "frame", desc := "([B)[B" } : Jvm.MethodName) prog_23_method_2_code (2 : Nat) (Option.some (Jvm.ClassFile.FieldType.array Jvm.ClassFile.FieldType.byte))).before args0 about1 = true := code_word (m := ⟨2, 1⟩) (meth := k2m1) (c := k2c1) (by decide +kernel) rfl rfl rfl (by decide +kernel)
set_option maxRecDepth 65536 in
theorem w_c2 : (Jvm.Cond.code ({ cls := "com/example/rhythmwire/rhythmwire/hl7/MllpFramePinLaw", name := "slot", desc := "([B[BII)Z" } : Jvm.MethodName) method_3_code (4 : Nat) (Option.some Jvm.ClassFile.FieldType.boolean)).before args0 about1 = true := code_word (m := ⟨1, 2⟩) (meth := k1m2) (c := k1c2) (by decide +kernel) rfl rfl rfl (by decide +kernel)
def codes1 : List Jvm.Cond := [Jvm.Cond.code x code maxLocals ret, Jvm.Cond.code ({ cls := "com/example/rhythmwire/rhythmwire/hl7/Mllp", name := "frame", desc := "([B)[B" } : Jvm.MethodName) prog_23_method_2_code (2 : Nat) (Option.some (Jvm.ClassFile.FieldType.array Jvm.ClassFile.FieldType.byte)), Jvm.Cond.code ({ cls := "com/example/rhythmwire/rhythmwire/hl7/MllpFramePinLaw", name := "slot", desc := "([B[BII)Z" } : Jvm.MethodName) method_3_code (4 : Nat) (Option.some Jvm.ClassFile.FieldType.boolean)]
set_option maxRecDepth 65536 in
theorem codes_eq : words1.filter isCode = codes1 := rfl
theorem w_codes : ∀ c ∈ words1.filter isCode, c.before args0 about1 = true := by
  rw [codes_eq]
  intro c hc
  simp only [codes1, List.mem_cons, List.not_mem_nil, or_false] at hc
  rcases hc with rfl | rfl | rfl
  · exact w_c0
  · exact w_c1
  · exact w_c2
set_option maxRecDepth 65536 in
theorem w_t1 : words1.all (fun c => isCode c || c.before args0 about1) = true := by decide +kernel
theorem w_tables : (allAtoms (Jvm.Cond.code x code maxLocals ret :: tables_1)).before args0 about1 = true := by
  rw [allAtoms_all]
  show words1.all (fun c => c.before args0 about1) = true
  refine all_split ?_ w_codes
  rw [w_t1]
set_option maxRecDepth 65536 in
theorem w_case : (Jvm.Cond.and given_1 narrow_1).before args0 about1 = true := by decide +kernel
theorem w_applies : (headSpec (Jvm.Cond.code x code maxLocals ret :: tables_1) room_1).applies x e0.platform about1 = true :=
  (Spec.applies_iff w_frames).mpr ⟨w_running, w_runnable, w_alone, w_named, w_hears, w_ripe, w_room, w_tables⟩
theorem atStart : AtStart classFile x code maxLocals ret World_1 tables_1 room_1 Calls_1 rest_1 Pre_1 launch0 p0 e0 about1 theMethod args0 below0 :=
  ⟨lists_1, trivial, launch0.admits_env _ _ _, launch0.least_env, fairChoices_fair.cas, fairChoices_fair.clock, w_frames, w_args, w_heap, w_applies, trivial, trivial, w_case⟩
end start1
theorem witness_1 : WitnessClaimed_1 := ⟨start1.p0, start1.e0, start1.about1, start1.theMethod, start1.args0, start1.below0, start1.atStart⟩
end Jvm.Pilot.@@N@@
