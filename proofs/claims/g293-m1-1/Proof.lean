import JvmDerived
import JvmDerived.Pilot.@@N@@Statement
import JvmDerived.Pilot.@@N@@Code
set_option linter.unusedVariables false
set_option linter.unusedSimpArgs false
namespace Jvm.RoadKit
open Sem ClassFile Op Lib Jvm.Stand Jvm.Free Jvm.LawKit
section New
variable {p : Program} {l : Launch} {e : Env} {R : Room} {s : State} {m : MethodId} {args : Array Value} {below : List Frame} {meth : Method} {c : Code} {T : State} {locs : List Loc} {cells slots : Nat}
theorem retI (X : Stand p l e R s m args below meth c T locs cells slots) (hx : p.tables.exec = Jvm.exec) {pc : Nat} {Ls : Array Slot} {z : Int32} {rest : List Value} (hret : meth.sig.returnType = some .int) (hd : decode c.code pc = .ok (.ireturn, 1)) {fs : List Frame}
    (hl : ∀ (f : JFrame) (acts : List Action), f.method = m → f.locked = none → f.entered = [] → (doReturn e (T.setTop f) acts (some (.int z))).1 = T.setFrames fs) : Steps p.tables e below (T.setTop (mkF m pc Ls (.int z :: rest))) (T.setFrames fs) := by
  have hm' : T.vm.method? m = some meth := X.method'
  have hn : narrow .int (.int z) = .int z := rfl
  show Steps p.tables e below (T.setTop { method := m, pc := pc, locals := Ls, stack := _ :: rest, locked := none }) _
  jvm_step X.here [X.here.top, hx, hd, hm', hret, hn]
  first | (intro acts; rw [hl _ acts rfl rfl rfl]) | rw [hl _ _ rfl rfl rfl]
  exact Steps.refl _
/-- from the state A the body comes to its end, and what it leaves is Q's -/
def Go (tb : Tables) (e : Env) (below : List Frame) (s : State) (Q : Option Value → Heap → List Loc → Prop) (k n : Nat) (A : State) : Prop :=
  ∃ s₂ o, Steps tb e below A s₂ ∧ s₂.status = .running ∧ Ended s₂ below o ∧ ∃ v L, o = .returned v ∧ Q v s₂.heap L ∧ FrameEnd s o s₂ L k n
theorem Go.on {tb : Tables} {Q : Option Value → Heap → List Loc → Prop} {k n : Nat} {A B : State} (h : ∀ t, Steps tb e below B t → Steps tb e below A t) (g : Go tb e below s Q k n B) : Go tb e below s Q k n A := by
  obtain ⟨s₂, o, h1, h2⟩ := g
  exact ⟨s₂, o, h _ h1, h2⟩
theorem Go.via {tb : Tables} {Q : Option Value → Heap → List Loc → Prop} {k n : Nat} {A B : State} (h : Steps tb e below A B) (g : Go tb e below s Q k n B) : Go tb e below s Q k n A := by
  obtain ⟨s₂, o, h1, h2⟩ := g
  exact ⟨s₂, o, h.trans h1, h2⟩
theorem Go.retN (X : Stand p l e R s m args below meth c T locs cells slots) (hx : p.tables.exec = Jvm.exec) (hlk : meth.locks = false) {Q : Option Value → Heap → List Loc → Prop} {k n : Nat} {pc : Nat} {Ls : Array Slot} {z : Int32} {t : FieldType} {rest : List Value} (hret : meth.sig.returnType = some t) (ht : t = .boolean ∨ t = .byte ∨ t = .char ∨ t = .short)
    (hd : decode c.code pc = .ok (.ireturn, 1)) (hk : cells ≤ k) (hn : slots ≤ n) {h : Heap} (eT : T.heap = h) (q : Q (some (.int (nar t z))) h locs) : Go p.tables e below s Q k n (T.setTop (mkF m pc Ls (.int z :: rest))) := by
  obtain ⟨fs, hr, hrun, hended, hW, hsame⟩ := X.leave (v := some (.int (nar t z))) (fun h => by rw [hret] at h; cases h) hlk
  subst eT
  exact ⟨_, _, Jvm.RoadKit.retN X hx hret ht hd hr, hrun, hended, _, _, rfl, q, ⟨_, rfl⟩, hW, hsame.mono hk hn⟩
theorem Go.retI (X : Stand p l e R s m args below meth c T locs cells slots) (hx : p.tables.exec = Jvm.exec) (hlk : meth.locks = false) {Q : Option Value → Heap → List Loc → Prop} {k n : Nat} {pc : Nat} {Ls : Array Slot} {z : Int32} {rest : List Value} (hret : meth.sig.returnType = some .int)
    (hd : decode c.code pc = .ok (.ireturn, 1)) (hk : cells ≤ k) (hn : slots ≤ n) {h : Heap} (eT : T.heap = h) (q : Q (some (.int z)) h locs) : Go p.tables e below s Q k n (T.setTop (mkF m pc Ls (.int z :: rest))) := by
  obtain ⟨fs, hr, hrun, hended, hW, hsame⟩ := X.leave (v := some (.int z)) (fun h => by rw [hret] at h; cases h) hlk
  subst eT
  exact ⟨_, _, Jvm.RoadKit.retI X hx hret hd hr, hrun, hended, _, _, rfl, q, ⟨_, rfl⟩, hW, hsame.mono hk hn⟩
theorem Go.retJ (X : Stand p l e R s m args below meth c T locs cells slots) (hx : p.tables.exec = Jvm.exec) (hlk : meth.locks = false) {Q : Option Value → Heap → List Loc → Prop} {k n : Nat} {pc : Nat} {Ls : Array Slot} {z : Int64} (hret : meth.sig.returnType = some .long)
    (hd : decode c.code pc = .ok (.lreturn, 1)) (hk : cells ≤ k) (hn : slots ≤ n) {h : Heap} (eT : T.heap = h) (q : Q (some (.long z)) h locs) : Go p.tables e below s Q k n (T.setTop (mkF m pc Ls [.long z])) := by
  obtain ⟨fs, hr, hrun, hended, hW, hsame⟩ := X.leave (v := some (.long z)) (fun h => by rw [hret] at h; cases h) hlk
  subst eT
  exact ⟨_, _, X.lreturnOut hx hret hd hr, hrun, hended, _, _, rfl, q, ⟨_, rfl⟩, hW, hsame.mono hk hn⟩
theorem Go.retA (X : Stand p l e R s m args below meth c T locs cells slots) (hx : p.tables.exec = Jvm.exec) (hlk : meth.locks = false) {Q : Option Value → Heap → List Loc → Prop} {k n : Nat} {pc : Nat} {Ls : Array Slot} {w : Value} {t : FieldType} (hw : w.isRef = true) (hret : meth.sig.returnType = some t) (ht : t.isReference = true)
    (hd : decode c.code pc = .ok (.areturn, 1)) (hk : cells ≤ k) (hn : slots ≤ n) {h : Heap} (eT : T.heap = h) (q : Q (some w) h locs) : Go p.tables e below s Q k n (T.setTop (mkF m pc Ls [w])) := by
  obtain ⟨fs, hr, hrun, hended, hW, hsame⟩ := X.leave (v := some w) (fun h => by rw [hret] at h; cases h) hlk
  subst eT
  exact ⟨_, _, X.areturnOut hx hw hret ht hd hr, hrun, hended, _, _, rfl, q, ⟨_, rfl⟩, hW, hsame.mono hk hn⟩
theorem Go.retV (X : Stand p l e R s m args below meth c T locs cells slots) (hx : p.tables.exec = Jvm.exec) (hlk : meth.locks = false) {Q : Option Value → Heap → List Loc → Prop} {k n : Nat} {pc : Nat} {Ls : Array Slot} (hret : meth.sig.returnType = none)
    (hd : decode c.code pc = .ok (.return_, 1)) (hk : cells ≤ k) (hn : slots ≤ n) {h : Heap} (eT : T.heap = h) (q : Q none h locs) : Go p.tables e below s Q k n (T.setTop (mkF m pc Ls [])) := by
  obtain ⟨fs, hr, hrun, hended, hW, hsame⟩ := X.leave (v := none) (fun _ => rfl) hlk
  subst eT
  exact ⟨_, _, X.returnOut hx hret hd hr, hrun, hended, _, _, rfl, q, ⟨_, rfl⟩, hW, hsame.mono hk hn⟩
end New
end Jvm.RoadKit
namespace Jvm.Pilot.@@N@@
open Jvm Jvm.ClassFile Sem Op Lib Jvm.Free Jvm.Stand Jvm.LawKit Jvm.RoadKit Bundle Jvm.Pilot.@@N@@.Jvm.D

theorem own_nb (x : Int32) : nar .byte (x.toInt8.toInt32) = x.toInt8.toInt32 := by
  show x.toInt8.toInt32.toInt8.toInt32 = x.toInt8.toInt32
  rw [Int8.toInt8_toInt32]
theorem own_toInt {n : Nat} (h : n < 2147483648) : (Int32.ofNat n).toInt = n := Int32.toInt_ofNat_of_lt h
theorem own_lt {i n : Nat} (hi : i < 2147483648) (hn : n < 2147483648) : Int32.ofNat i < Int32.ofNat n ↔ i < n := by
  rw [Int32.lt_iff_toInt_lt, own_toInt hi, own_toInt hn]; omega
theorem own_add (a b : Nat) : Int32.ofNat a + Int32.ofNat b = Int32.ofNat (a + b) := (Int32.ofNat_add a b).symm
theorem own_clamp {n : Nat} (h : n < 2147483648) : (Int32.ofNat n).toNatClampNeg = n := by simp [Int32.toNatClampNeg, own_toInt h]
theorem own_in {j : Nat} (h : j < 16) : ¬ Int32.ofNat j < 0 ∧ Int32.ofNat j < (16 : Int32) := by
  have e0 : (0 : Int32).toInt = 0 := rfl
  have e1 : (16 : Int32).toInt = 16 := rfl
  simp only [Int32.lt_iff_toInt_lt, own_toInt (show j < 2147483648 by omega), e0, e1]; omega
theorem own_at (ds : List Int32) {j : Nat} (h : j < 16) : (ds.map Value.int).getD (Int32.ofNat j).toNatClampNeg (.int (0 : Int32)) = .int (ds.getD j 0) := by
  rw [own_clamp (show j < 2147483648 by omega)]
  simp only [List.getD_eq_getElem?_getD, List.getElem?_map]
  cases ds[j]? <;> rfl
/-- the hash of the first j bytes from o on -/
def own_h (ds : List Int32) (o : Nat) : Nat → Int32
  | 0 => 0
  | j + 1 => 31 * own_h ds o j + ds.getD (o + j) 0
def own_stp (p : Int32) (ds : List Int32) (o n i : Nat) : Int32 := if i < n then 31 * p + ds.getD (o + i) 0 else p
def own_fold (ds : List Int32) (o n : Nat) : Nat → Int32
  | 0 => 0
  | i + 1 => own_stp (own_fold ds o n i) ds o n i
theorem own_fold_h (ds : List Int32) (o n : Nat) : ∀ i, own_fold ds o n i = own_h ds o (min i n)
  | 0 => by simp [own_fold, own_h]
  | i + 1 => by
    rw [own_fold, own_fold_h ds o n i, own_stp]
    by_cases q : i < n
    · rw [if_pos q, Nat.min_eq_left (by omega), Nat.min_eq_left (by omega), own_h]
    · rw [if_neg q, Nat.min_eq_right (by omega), Nat.min_eq_right (by omega)]
theorem own_end (ds : List Int32) {o n : Nat} (h : n ≤ 12) : own_h ds o n = own_fold ds o n 12 := by rw [own_fold_h, Nat.min_eq_right h]
theorem own_four (h a b c d : Int32) : h * (923521 : Int32) + a * (29791 : Int32) + b * (961 : Int32) + c * (31 : Int32) + d = 31 * (31 * (31 * (31 * h + a) + b) + c) + d := by grind
theorem own_turn (ds : List Int32) (o j : Nat) : own_h ds o j * (923521 : Int32) + ds.getD (o + j) 0 * (29791 : Int32) + ds.getD (o + j + 1) 0 * (961 : Int32) + ds.getD (o + j + 2) 0 * (31 : Int32) + ds.getD (o + j + 3) 0 = own_h ds o (j + 4) := by
  rw [own_four]; rfl
theorem own_off (s : Int32) : ∃ n : Nat, n ≤ 3 ∧ (s &&& (3 : Int32)) = Int32.ofNat n := by
  have h := c_mask s 3 2 (by decide) (by decide)
  refine ⟨(s &&& (3 : Int32)).toInt.toNat, by omega, Int32.toInt_inj.mp ?_⟩
  rw [own_toInt (by omega)]; omega
theorem own_len (s : Int32) : ∃ n : Nat, n ≤ 12 ∧ ((s.toUInt32 >>> ((2 : Int32) &&& 31).toUInt32).toInt32) % (13 : Int32) = Int32.ofNat n := by
  have h := c_iushr s 2 2 (by decide) (by decide)
  have h1 : 0 ≤ ((s.toUInt32 >>> ((2 : Int32) &&& 31).toUInt32).toInt32).toInt := by rw [h]; omega
  have h2 := (c_irem ((s.toUInt32 >>> ((2 : Int32) &&& 31).toUInt32).toInt32) (13 : Int32) 13 (by decide)).1 h1
  refine ⟨(((s.toUInt32 >>> ((2 : Int32) &&& 31).toUInt32).toInt32) % (13 : Int32)).toInt.toNat, by omega, Int32.toInt_inj.mp ?_⟩
  rw [own_toInt (by omega)]; omega

theorem d1_0 : decode method_2_code 0 = .ok (.lload_n 0, 1) := by decide +kernel
theorem d1_1 : decode method_2_code 1 = .ok (.bipush 8, 2) := by decide +kernel
theorem d1_3 : decode method_2_code 3 = .ok (.iload_n 2, 1) := by decide +kernel
theorem d1_4 : decode method_2_code 4 = .ok (.imul, 1) := by decide +kernel
theorem d1_5 : decode method_2_code 5 = .ok (.lushr, 1) := by decide +kernel
theorem d1_6 : decode method_2_code 6 = .ok (.ldc2_w 7, 3) := by decide +kernel
theorem d1_9 : decode method_2_code 9 = .ok (.land, 1) := by decide +kernel
theorem d1_10 : decode method_2_code 10 = .ok (.l2i, 1) := by decide +kernel
theorem d1_11 : decode method_2_code 11 = .ok (.i2b, 1) := by decide +kernel
theorem d1_12 : decode method_2_code 12 = .ok (.ireturn, 1) := by decide +kernel
theorem pd__40_JI_41_B : parseMethodDescriptor "(JI)B" = some ⟨[.long, .int], some .byte⟩ := by decide +kernel
theorem pd__40_I_91_BIII_41_I : parseMethodDescriptor "(I[BIII)I" = some ⟨[.int, (.array .byte), .int, .int, .int], some .int⟩ := by decide +kernel
theorem pd__40__41_V : parseMethodDescriptor "()V" = some ⟨[], none⟩ := by decide +kernel
theorem pd__40__91_BII_41_Lcom_47_example_47_tidewell_47_tidewell_47_engine_47_CsvParser_36_FieldText_59_ : parseMethodDescriptor "([BII)Lcom/example/tidewell/tidewell/engine/CsvParser$FieldText;" = some ⟨[(.array .byte), .int, .int], some (.object "com/example/tidewell/tidewell/engine/CsvParser$FieldText")⟩ := by decide +kernel
theorem pd__40__41_I : parseMethodDescriptor "()I" = some ⟨[], some .int⟩ := by decide +kernel
theorem ef_1 (m : MethodId) (x0 : Int64) (x1 : Int32) : entryFrame m #[(.long x0), (.int x1)] 3 = mkF m 0 #[.val (.long x0), .second, .val (.int x1)] [] := by first | (simp [entryFrame, mkF, argsToLocals, Value.category]; done) | rfl
def Q1 (Z : State) (q1 : Int64) (p2 : Int32) (h0 : Heap) (n0 : Nat) (v : Option Value) (h : Heap) (L : List Loc) : Prop := ∃ (r : Int32), v = some (.int r) ∧ Fr n0 L ∧ h = h0 ∧ nar .byte r = r ∧ fits .byte (.int r) = true
theorem pn_com_example_tidewell_tidewell_engine_FieldTextTextHashPinLaw : plainName "com/example/tidewell/tidewell/engine/FieldTextTextHashPinLaw" = true := by first | (simp [plainName, overriddenIn]; done) | decide +kernel
set_option maxRecDepth 65536 in
set_option maxHeartbeats 40000000 in
theorem rm1 (l : Launch) (Z : State) (a0 : Array Value) (hw : ∀ d ∈ tables_1, d.before a0 Z = true) (ws : List Jvm.Cond) (q1 : Int64) (p2 : Int32) (h0 : Heap) (n0 : Nat) (Z0 : n0 ≤ h0.size)  :
    MetFree l (⟨"com/example/tidewell/tidewell/engine/FieldTextTextHashPinLaw", "b", "(JI)B"⟩ : MethodName) (head1 (Jvm.Cond.code (⟨"com/example/tidewell/tidewell/engine/FieldTextTextHashPinLaw", "b", "(JI)B"⟩ : MethodName) method_2_code 3 (some .byte) :: ws) ({ frames := 0, cells := 0, slots := 0, locals := 0 } : Room)) (fun a U => a = #[(.long q1), (.int p2)] ∧ Z.Warmed39 U.vm ∧ U.heap = h0) (fun _ _ _ _ _ => True) (fun _ U o U' => ∃ v L, o = .returned v ∧ Q1 Z q1 p2 h0 n0 v U'.heap L ∧ FrameEnd U o U' L ({ frames := 0, cells := 0, slots := 0, locals := 0 } : Room).cells ({ frames := 0, cells := 0, slots := 0, locals := 0 } : Room).slots) := by
  refine MetFree.of_bodySF (plainFor_of_name pn_com_example_tidewell_tidewell_engine_FieldTextTextHashPinLaw) hisR ?_
  intro p e s m args below meth c s₁ Bd hml0 hP hK
  obtain ⟨rfl, hZ, hh⟩ := hP
  have hx := Bd.exec
  have hby := Bd.bytes
  have hlk : meth.locks = false := BodyLoose.notSynchronized Bd
  have hml : c.maxLocals = 3 := hml0
  have hown : s.vm.findClass "com/example/tidewell/tidewell/engine/FieldTextTextHashPinLaw" = some m.cls := findClass_of_methodNamed Bd.named
  have hnm := (name_of_methodNamed Bd.named Bd.method).1
  have X0 : Stand p l e ({ frames := 0, cells := 0, slots := 0, locals := 0 } : Room) s m #[(.long q1), (.int p2)] below meth c s₁ [] 0 0 := Stand.of_body Bd
  have e0 : s₁.heap = h0 := by rw [← hh, Bd.state]; rfl
  have N0 := Fr.nil n0
  show Go p.tables e below s (Q1 Z q1 p2 h0 n0) ({ frames := 0, cells := 0, slots := 0, locals := 0 } : Room).cells ({ frames := 0, cells := 0, slots := 0, locals := 0 } : Room).slots (s₁.setTop (entryFrame m #[(.long q1), (.int p2)] 3))
  refine Go.on (fun t k => castTop (ef_1 m q1 p2) k) ?_
  show Go p.tables e below s _ _ _ (s₁.setTop (mkF m 0 #[.val (.long q1), .second, .val (.int p2)] []))
  refine Go.on (fun t k => XS.lloadN X0.here hx rfl (hb hby d1_0) rfl k) ?_
  show Go p.tables e below s _ _ _ (s₁.setTop (mkF m 1 #[.val (.long q1), .second, .val (.int p2)] [(.long q1)]))
  refine Go.on (fun t k => XS.bipush X0.here hx rfl (hb hby d1_1) k) ?_
  show Go p.tables e below s _ _ _ (s₁.setTop (mkF m 3 #[.val (.long q1), .second, .val (.int p2)] [(.int (8 : Int32)), (.long q1)]))
  refine Go.on (fun t k => XS.iloadN X0.here hx rfl (hb hby d1_3) rfl k) ?_
  show Go p.tables e below s _ _ _ (s₁.setTop (mkF m 4 #[.val (.long q1), .second, .val (.int p2)] [(.int p2), (.int (8 : Int32)), (.long q1)]))
  refine Go.on (fun t k => XS.imul X0.here hx rfl (hb hby d1_4) rfl k) ?_
  show Go p.tables e below s _ _ _ (s₁.setTop (mkF m 5 #[.val (.long q1), .second, .val (.int p2)] [(.int ((8 : Int32) * p2)), (.long q1)]))
  refine Go.on (fun t k => XS.lushr X0.here hx rfl (hb hby d1_5) rfl k) ?_
  show Go p.tables e below s _ _ _ (s₁.setTop (mkF m 6 #[.val (.long q1), .second, .val (.int p2)] [(.long ((q1.toUInt64 >>> (((8 : Int32) * p2) &&& 0x3f).toInt64.toUInt64).toInt64))]))
  refine Go.on (fun t k => X0.ldc2Long hx hown (mvT hZ (hw _ (List.mem_of_getElem? (i := 5) rfl))) (g := (mkF m 6 #[.val (.long q1), .second, .val (.int p2)] [(.long ((q1.toUInt64 >>> (((8 : Int32) * p2) &&& 0x3f).toInt64.toUInt64).toInt64))])) rfl (hb hby d1_6) t k) ?_
  show Go p.tables e below s _ _ _ (s₁.setTop (mkF m 9 #[.val (.long q1), .second, .val (.int p2)] [(.long (127 : Int64)), (.long ((q1.toUInt64 >>> (((8 : Int32) * p2) &&& 0x3f).toInt64.toUInt64).toInt64))]))
  refine Go.on (fun t k => XS.land X0.here hx rfl (hb hby d1_9) rfl k) ?_
  show Go p.tables e below s _ _ _ (s₁.setTop (mkF m 10 #[.val (.long q1), .second, .val (.int p2)] [(.long (((q1.toUInt64 >>> (((8 : Int32) * p2) &&& 0x3f).toInt64.toUInt64).toInt64) &&& (127 : Int64)))]))
  refine Go.on (fun t k => XS.l2i X0.here hx rfl (hb hby d1_10) rfl k) ?_
  show Go p.tables e below s _ _ _ (s₁.setTop (mkF m 11 #[.val (.long q1), .second, .val (.int p2)] [(.int ((((q1.toUInt64 >>> (((8 : Int32) * p2) &&& 0x3f).toInt64.toUInt64).toInt64) &&& (127 : Int64)).toInt32))]))
  refine Go.on (fun t k => XS.i2b X0.here hx rfl (hb hby d1_11) rfl k) ?_
  show Go p.tables e below s _ _ _ (s₁.setTop (mkF m 12 #[.val (.long q1), .second, .val (.int p2)] [(.int (((((q1.toUInt64 >>> (((8 : Int32) * p2) &&& 0x3f).toInt64.toUInt64).toInt64) &&& (127 : Int64)).toInt32).toInt8.toInt32))]))
  refine Go.retN X0 hx hlk (t := .byte) Bd.returns (by simp) (hb hby d1_12) (by decide) (by decide) e0 ?_
  exact ⟨_, rfl, N0, rfl, (by rw [own_nb, own_nb]), (by rw [own_nb]; exact fits_nar_byte _)⟩
theorem d2_0 : decode method_3_code 0 = .ok (.iload_n 3, 1) := by decide +kernel
theorem d2_1 : decode method_3_code 1 = .ok (.iload 4, 2) := by decide +kernel
theorem d2_3 : decode method_3_code 3 = .ok (.if_icmp .le 17, 3) := by decide +kernel
theorem d2_6 : decode method_3_code 6 = .ok (.bipush 31, 2) := by decide +kernel
theorem d2_8 : decode method_3_code 8 = .ok (.iload_n 0, 1) := by decide +kernel
theorem d2_9 : decode method_3_code 9 = .ok (.imul, 1) := by decide +kernel
theorem d2_10 : decode method_3_code 10 = .ok (.aload_n 1, 1) := by decide +kernel
theorem d2_11 : decode method_3_code 11 = .ok (.iload_n 2, 1) := by decide +kernel
theorem d2_12 : decode method_3_code 12 = .ok (.iload 4, 2) := by decide +kernel
theorem d2_14 : decode method_3_code 14 = .ok (.iadd, 1) := by decide +kernel
theorem d2_15 : decode method_3_code 15 = .ok (.baload, 1) := by decide +kernel
theorem d2_16 : decode method_3_code 16 = .ok (.iadd, 1) := by decide +kernel
theorem d2_17 : decode method_3_code 17 = .ok (.goto 4, 3) := by decide +kernel
theorem d2_20 : decode method_3_code 20 = .ok (.iload_n 0, 1) := by decide +kernel
theorem d2_21 : decode method_3_code 21 = .ok (.ireturn, 1) := by decide +kernel
theorem ef_2 (m : MethodId) (x0 : Int32) (x1 : Addr) (x2 : Int32) (x3 : Int32) (x4 : Int32) : entryFrame m #[(.int x0), (.ref x1), (.int x2), (.int x3), (.int x4)] 5 = mkF m 0 #[.val (.int x0), .val (.ref x1), .val (.int x2), .val (.int x3), .val (.int x4)] [] := by first | (simp [entryFrame, mkF, argsToLocals, Value.category]; done) | rfl
def Q2 (Z : State) (p1 : Int32) (a2 : Addr) (p3 : Int32) (p4 : Int32) (p5 : Int32) (k : ClassId) (ds : List Int32) (oo : Nat) (n : Nat) (i : Nat) (h0 : Heap) (n0 : Nat) (v : Option Value) (h : Heap) (L : List Loc) : Prop := v = some (.int (own_stp p1 ds oo n i)) ∧ Fr n0 L ∧ h = h0
set_option maxRecDepth 65536 in
set_option maxHeartbeats 40000000 in
theorem rm2 (l : Launch) (Z : State) (a0 : Array Value) (hw : ∀ d ∈ tables_1, d.before a0 Z = true) (ws : List Jvm.Cond) (p1 : Int32) (a2 : Addr) (p3 : Int32) (p4 : Int32) (p5 : Int32) (k : ClassId) (ds : List Int32) (oo : Nat) (n : Nat) (i : Nat) (h0 : Heap) (n0 : Nat) (Z0 : n0 ≤ h0.size) (V_a2 : Arv Z h0 a2 k .byte (16 : Int32) (ds.map Value.int) (.int (0 : Int32))) (h3 : p3 = Int32.ofNat oo) (h4 : p4 = Int32.ofNat n) (h5 : p5 = Int32.ofNat i) (hb1 : oo ≤ 3 ∧ n ≤ 12 ∧ i ≤ 11) :
    MetFree l (⟨"com/example/tidewell/tidewell/engine/FieldTextTextHashPinLaw", "step", "(I[BIII)I"⟩ : MethodName) (head1 (Jvm.Cond.code (⟨"com/example/tidewell/tidewell/engine/FieldTextTextHashPinLaw", "step", "(I[BIII)I"⟩ : MethodName) method_3_code 5 (some .int) :: ws) ({ frames := 0, cells := 0, slots := 0, locals := 0 } : Room)) (fun a U => a = #[(.int p1), (.ref a2), (.int p3), (.int p4), (.int p5)] ∧ Z.Warmed39 U.vm ∧ U.heap = h0) (fun _ _ _ _ _ => True) (fun _ U o U' => ∃ v L, o = .returned v ∧ Q2 Z p1 a2 p3 p4 p5 k ds oo n i h0 n0 v U'.heap L ∧ FrameEnd U o U' L ({ frames := 0, cells := 0, slots := 0, locals := 0 } : Room).cells ({ frames := 0, cells := 0, slots := 0, locals := 0 } : Room).slots) := by
  refine MetFree.of_bodySF (plainFor_of_name pn_com_example_tidewell_tidewell_engine_FieldTextTextHashPinLaw) hisR ?_
  intro p e s m args below meth c s₁ Bd hml0 hP hK
  obtain ⟨rfl, hZ, hh⟩ := hP
  have hx := Bd.exec
  have hby := Bd.bytes
  have hlk : meth.locks = false := BodyLoose.notSynchronized Bd
  have hml : c.maxLocals = 5 := hml0
  have hown : s.vm.findClass "com/example/tidewell/tidewell/engine/FieldTextTextHashPinLaw" = some m.cls := findClass_of_methodNamed Bd.named
  have hnm := (name_of_methodNamed Bd.named Bd.method).1
  have X0 : Stand p l e ({ frames := 0, cells := 0, slots := 0, locals := 0 } : Room) s m #[(.int p1), (.ref a2), (.int p3), (.int p4), (.int p5)] below meth c s₁ [] 0 0 := Stand.of_body Bd
  have e0 : s₁.heap = h0 := by rw [← hh, Bd.state]; rfl
  have N0 := Fr.nil n0
  show Go p.tables e below s (Q2 Z p1 a2 p3 p4 p5 k ds oo n i h0 n0) ({ frames := 0, cells := 0, slots := 0, locals := 0 } : Room).cells ({ frames := 0, cells := 0, slots := 0, locals := 0 } : Room).slots (s₁.setTop (entryFrame m #[(.int p1), (.ref a2), (.int p3), (.int p4), (.int p5)] 5))
  refine Go.on (fun t k => castTop (ef_2 m p1 a2 p3 p4 p5) k) ?_
  show Go p.tables e below s _ _ _ (s₁.setTop (mkF m 0 #[.val (.int p1), .val (.ref a2), .val (.int p3), .val (.int p4), .val (.int p5)] []))
  subst h3 h4 h5
  show Go p.tables e below s _ _ _ (s₁.setTop (mkF m 0 #[.val (.int p1), .val (.ref a2), .val (.int (Int32.ofNat oo)), .val (.int (Int32.ofNat n)), .val (.int (Int32.ofNat i))] []))
  refine Go.on (fun t k => XS.iloadN X0.here hx rfl (hb hby d2_0) rfl k) ?_
  show Go p.tables e below s _ _ _ (s₁.setTop (mkF m 1 #[.val (.int p1), .val (.ref a2), .val (.int (Int32.ofNat oo)), .val (.int (Int32.ofNat n)), .val (.int (Int32.ofNat i))] [(.int (Int32.ofNat n))]))
  refine Go.on (fun t k => XS.iload X0.here hx rfl (hb hby d2_1) rfl k) ?_
  show Go p.tables e below s _ _ _ (s₁.setTop (mkF m 3 #[.val (.int p1), .val (.ref a2), .val (.int (Int32.ofNat oo)), .val (.int (Int32.ofNat n)), .val (.int (Int32.ofNat i))] [(.int (Int32.ofNat i)), (.int (Int32.ofNat n))]))
  by_cases hc : (Int32.ofNat i) < (Int32.ofNat n)
  · refine Go.on (fun t k => XS.icmpNo X0.here hx rfl (hb hby d2_3) rfl (tlt hc).2.2.2 k) ?_
    show Go p.tables e below s _ _ _ (s₁.setTop (mkF m 6 #[.val (.int p1), .val (.ref a2), .val (.int (Int32.ofNat oo)), .val (.int (Int32.ofNat n)), .val (.int (Int32.ofNat i))] []))
    refine Go.on (fun t k => XS.bipush X0.here hx rfl (hb hby d2_6) k) ?_
    show Go p.tables e below s _ _ _ (s₁.setTop (mkF m 8 #[.val (.int p1), .val (.ref a2), .val (.int (Int32.ofNat oo)), .val (.int (Int32.ofNat n)), .val (.int (Int32.ofNat i))] [(.int (31 : Int32))]))
    refine Go.on (fun t k => XS.iloadN X0.here hx rfl (hb hby d2_8) rfl k) ?_
    show Go p.tables e below s _ _ _ (s₁.setTop (mkF m 9 #[.val (.int p1), .val (.ref a2), .val (.int (Int32.ofNat oo)), .val (.int (Int32.ofNat n)), .val (.int (Int32.ofNat i))] [(.int p1), (.int (31 : Int32))]))
    refine Go.on (fun t k => XS.imul X0.here hx rfl (hb hby d2_9) rfl k) ?_
    show Go p.tables e below s _ _ _ (s₁.setTop (mkF m 10 #[.val (.int p1), .val (.ref a2), .val (.int (Int32.ofNat oo)), .val (.int (Int32.ofNat n)), .val (.int (Int32.ofNat i))] [(.int ((31 : Int32) * p1))]))
    refine Go.on (fun t k => XS.aloadN X0.here hx rfl (hb hby d2_10) rfl rfl k) ?_
    show Go p.tables e below s _ _ _ (s₁.setTop (mkF m 11 #[.val (.int p1), .val (.ref a2), .val (.int (Int32.ofNat oo)), .val (.int (Int32.ofNat n)), .val (.int (Int32.ofNat i))] [(.ref a2), (.int ((31 : Int32) * p1))]))
    refine Go.on (fun t k => XS.iloadN X0.here hx rfl (hb hby d2_11) rfl k) ?_
    show Go p.tables e below s _ _ _ (s₁.setTop (mkF m 12 #[.val (.int p1), .val (.ref a2), .val (.int (Int32.ofNat oo)), .val (.int (Int32.ofNat n)), .val (.int (Int32.ofNat i))] [(.int (Int32.ofNat oo)), (.ref a2), (.int ((31 : Int32) * p1))]))
    refine Go.on (fun t k => XS.iload X0.here hx rfl (hb hby d2_12) rfl k) ?_
    show Go p.tables e below s _ _ _ (s₁.setTop (mkF m 14 #[.val (.int p1), .val (.ref a2), .val (.int (Int32.ofNat oo)), .val (.int (Int32.ofNat n)), .val (.int (Int32.ofNat i))] [(.int (Int32.ofNat i)), (.int (Int32.ofNat oo)), (.ref a2), (.int ((31 : Int32) * p1))]))
    refine Go.on (fun t k => XS.iadd X0.here hx rfl (hb hby d2_14) rfl k) ?_
    show Go p.tables e below s _ _ _ (s₁.setTop (mkF m 15 #[.val (.int p1), .val (.ref a2), .val (.int (Int32.ofNat oo)), .val (.int (Int32.ofNat n)), .val (.int (Int32.ofNat i))] [(.int ((Int32.ofNat oo) + (Int32.ofNat i))), (.ref a2), (.int ((31 : Int32) * p1))]))
    rw [own_add]
    show Go p.tables e below s _ _ _ (s₁.setTop (mkF m 15 #[.val (.int p1), .val (.ref a2), .val (.int (Int32.ofNat oo)), .val (.int (Int32.ofNat n)), .val (.int (Int32.ofNat i))] [(.int (Int32.ofNat (oo + i))), (.ref a2), (.int ((31 : Int32) * p1))]))
    obtain ⟨cl1, Ar1, q1, S1, M1, H1, G1⟩ := id V_a2
    have hin1 : ¬ ((Int32.ofNat (oo + i)) < 0 ∨ cl1.slots.size ≤ ((Int32.ofNat (oo + i))).toNatClampNeg) := inb_of S1 (own_in (by omega))
    have hat1 : cl1.slots[((Int32.ofNat (oo + i))).toNatClampNeg]? = some (.int (ds.getD (oo + i) 0)) := H1.at hin1 (own_at ds (by omega))
    refine Go.on (fun t k => X0.baloadBytes hx (j := (Int32.ofNat (oo + i))) (v := (.int (ds.getD (oo + i) 0))) (by rw [e0]; exact Ar1.1) (State.isArrayOf_alike hZ.alike Ar1.2.1) Ar1.2.2 hin1 hat1 (g := (mkF m 15 #[.val (.int p1), .val (.ref a2), .val (.int (Int32.ofNat oo)), .val (.int (Int32.ofNat n)), .val (.int (Int32.ofNat i))] [(.int (Int32.ofNat (oo + i))), (.ref a2), (.int ((31 : Int32) * p1))])) rfl rfl (hb hby d2_15) t k) ?_
    show Go p.tables e below s _ _ _ (s₁.setTop (mkF m 16 #[.val (.int p1), .val (.ref a2), .val (.int (Int32.ofNat oo)), .val (.int (Int32.ofNat n)), .val (.int (Int32.ofNat i))] [(.int (ds.getD (oo + i) 0)), (.int ((31 : Int32) * p1))]))
    refine Go.on (fun t k => XS.iadd X0.here hx rfl (hb hby d2_16) rfl k) ?_
    show Go p.tables e below s _ _ _ (s₁.setTop (mkF m 17 #[.val (.int p1), .val (.ref a2), .val (.int (Int32.ofNat oo)), .val (.int (Int32.ofNat n)), .val (.int (Int32.ofNat i))] [(.int (((31 : Int32) * p1) + (ds.getD (oo + i) 0)))]))
    refine Go.on (fun t k => XS.goto X0.here hx rfl (pc0 := 17) (pc' := 21) rfl (hb hby d2_17) (by decide) (by decide) k) ?_
    show Go p.tables e below s _ _ _ (s₁.setTop (mkF m 21 #[.val (.int p1), .val (.ref a2), .val (.int (Int32.ofNat oo)), .val (.int (Int32.ofNat n)), .val (.int (Int32.ofNat i))] [(.int (((31 : Int32) * p1) + (ds.getD (oo + i) 0)))]))
    refine Go.retI X0 hx hlk Bd.returns (hb hby d2_21) (by decide) (by decide) e0 ?_
    exact ⟨(by rw [own_stp, if_pos ((own_lt (i := i) (n := n) (by omega) (by omega)).mp hc)]), N0, rfl⟩
  · refine Go.on (fun t k => XS.icmpYes X0.here hx rfl (pc0 := 3) (pc' := 20) rfl (hb hby d2_3) rfl (flt hc).2.2.2 (by decide) (by decide) k) ?_
    show Go p.tables e below s _ _ _ (s₁.setTop (mkF m 20 #[.val (.int p1), .val (.ref a2), .val (.int (Int32.ofNat oo)), .val (.int (Int32.ofNat n)), .val (.int (Int32.ofNat i))] []))
    refine Go.on (fun t k => XS.iloadN X0.here hx rfl (hb hby d2_20) rfl k) ?_
    show Go p.tables e below s _ _ _ (s₁.setTop (mkF m 21 #[.val (.int p1), .val (.ref a2), .val (.int (Int32.ofNat oo)), .val (.int (Int32.ofNat n)), .val (.int (Int32.ofNat i))] [(.int p1)]))
    refine Go.retI X0 hx hlk Bd.returns (hb hby d2_21) (by decide) (by decide) e0 ?_
    exact ⟨(by rw [own_stp, if_neg (fun q => hc ((own_lt (i := i) (n := n) (by omega) (by omega)).mpr q))]), N0, rfl⟩
theorem d3_0 : decode prog_31_method_1_code 0 = .ok (.aload_n 0, 1) := by decide +kernel
theorem d3_1 : decode prog_31_method_1_code 1 = .ok (.invokespecial 1, 3) := by decide +kernel
theorem d3_4 : decode prog_31_method_1_code 4 = .ok (.return_, 1) := by decide +kernel
theorem ef_3 (m : MethodId) (x0 : Addr) : entryFrame m #[(.ref x0)] 1 = mkF m 0 #[.val (.ref x0)] [] := by first | (simp [entryFrame, mkF, argsToLocals, Value.category]; done) | rfl
def Q3 (Z : State) (a1 : Addr) (h0 : Heap) (n0 : Nat) (v : Option Value) (h : Heap) (L : List Loc) : Prop := v = none ∧ Fr n0 L ∧ h = h0
theorem pn_com_example_tidewell_tidewell_engine_CsvParser_FieldText : plainName "com/example/tidewell/tidewell/engine/CsvParser$FieldText" = true := by first | (simp [plainName, overriddenIn]; done) | decide +kernel
set_option maxRecDepth 65536 in
set_option maxHeartbeats 40000000 in
theorem rm3 (l : Launch) (Z : State) (a0 : Array Value) (hw : ∀ d ∈ tables_1, d.before a0 Z = true) (ws : List Jvm.Cond) (a1 : Addr) (h0 : Heap) (n0 : Nat) (Z0 : n0 ≤ h0.size)  :
    MetFree l (⟨"com/example/tidewell/tidewell/engine/CsvParser$FieldText", "<init>", "()V"⟩ : MethodName) (head1 (Jvm.Cond.code (⟨"com/example/tidewell/tidewell/engine/CsvParser$FieldText", "<init>", "()V"⟩ : MethodName) prog_31_method_1_code 1 none :: ws) ({ frames := 1, cells := 0, slots := 0, locals := 12 } : Room)) (fun a U => a = #[(.ref a1)] ∧ Z.Warmed39 U.vm ∧ U.heap = h0) (fun _ _ _ _ _ => True) (fun _ U o U' => ∃ v L, o = .returned v ∧ Q3 Z a1 h0 n0 v U'.heap L ∧ FrameEnd U o U' L ({ frames := 1, cells := 0, slots := 0, locals := 12 } : Room).cells ({ frames := 1, cells := 0, slots := 0, locals := 12 } : Room).slots) := by
  refine MetFree.of_bodySF (plainFor_of_name pn_com_example_tidewell_tidewell_engine_CsvParser_FieldText) hisR ?_
  intro p e s m args below meth c s₁ Bd hml0 hP hK
  obtain ⟨rfl, hZ, hh⟩ := hP
  have hx := Bd.exec
  have hby := Bd.bytes
  have hlk : meth.locks = false := BodyLoose.notSynchronized Bd
  have hml : c.maxLocals = 1 := hml0
  have hown : s.vm.findClass "com/example/tidewell/tidewell/engine/CsvParser$FieldText" = some m.cls := findClass_of_methodNamed Bd.named
  have hnm := (name_of_methodNamed Bd.named Bd.method).1
  have X0 : Stand p l e ({ frames := 1, cells := 0, slots := 0, locals := 12 } : Room) s m #[(.ref a1)] below meth c s₁ [] 0 0 := Stand.of_body Bd
  have e0 : s₁.heap = h0 := by rw [← hh, Bd.state]; rfl
  have N0 := Fr.nil n0
  show Go p.tables e below s (Q3 Z a1 h0 n0) ({ frames := 1, cells := 0, slots := 0, locals := 12 } : Room).cells ({ frames := 1, cells := 0, slots := 0, locals := 12 } : Room).slots (s₁.setTop (entryFrame m #[(.ref a1)] 1))
  refine Go.on (fun t k => castTop (ef_3 m a1) k) ?_
  show Go p.tables e below s _ _ _ (s₁.setTop (mkF m 0 #[.val (.ref a1)] []))
  refine Go.on (fun t k => XS.aloadN X0.here hx rfl (hb hby d3_0) rfl rfl k) ?_
  show Go p.tables e below s _ _ _ (s₁.setTop (mkF m 1 #[.val (.ref a1)] [(.ref a1)]))
  obtain ⟨T1, X1, e1, st1⟩ := initO X0 hx hZ hown (hw _ (List.mem_of_getElem? (i := 15) rfl)) (hw _ (List.mem_of_getElem? (i := 16) rfl)) (hw _ (List.mem_of_getElem? (i := 17) rfl)) e0 (g := (mkF m 1 #[.val (.ref a1)] [(.ref a1)])) rfl (by rw [hml]; rfl) rfl (hb hby d3_1) (by decide) (W := 0) (by show 2 * 0 + _ ≤ _; exact Nat.le_of_eq rfl) (by decide)
  refine Go.on st1 ?_
  show Go p.tables e below s _ _ _ (T1.setTop (mkF m 4 #[.val (.ref a1)] []))
  refine Go.retV X1 hx hlk Bd.returns (hb hby d3_4) (by decide) (by decide) e1 ?_
  exact ⟨rfl, N0, rfl⟩
theorem d5_0 : decode prog_31_method_2_code 0 = .ok (.aload_n 0, 1) := by decide +kernel
theorem d5_1 : decode prog_31_method_2_code 1 = .ok (.aload_n 1, 1) := by decide +kernel
theorem d5_2 : decode prog_31_method_2_code 2 = .ok (.putfield 7, 3) := by decide +kernel
theorem d5_5 : decode prog_31_method_2_code 5 = .ok (.aload_n 0, 1) := by decide +kernel
theorem d5_6 : decode prog_31_method_2_code 6 = .ok (.iload_n 2, 1) := by decide +kernel
theorem d5_7 : decode prog_31_method_2_code 7 = .ok (.putfield 13, 3) := by decide +kernel
theorem d5_10 : decode prog_31_method_2_code 10 = .ok (.aload_n 0, 1) := by decide +kernel
theorem d5_11 : decode prog_31_method_2_code 11 = .ok (.iload_n 3, 1) := by decide +kernel
theorem d5_12 : decode prog_31_method_2_code 12 = .ok (.putfield 17, 3) := by decide +kernel
theorem d5_15 : decode prog_31_method_2_code 15 = .ok (.aload_n 0, 1) := by decide +kernel
theorem d5_16 : decode prog_31_method_2_code 16 = .ok (.areturn, 1) := by decide +kernel
theorem ef_5 (m : MethodId) (x0 : Addr) (x1 : Addr) (x2 : Int32) (x3 : Int32) : entryFrame m #[(.ref x0), (.ref x1), (.int x2), (.int x3)] 4 = mkF m 0 #[.val (.ref x0), .val (.ref x1), .val (.int x2), .val (.int x3)] [] := by first | (simp [entryFrame, mkF, argsToLocals, Value.category]; done) | rfl
def Q5 (Z : State) (a1 : Addr) (a2 : Addr) (p3 : Int32) (p4 : Int32) (u1 : Value) (u2 : Value) (u3 : Value) (h0 : Heap) (n0 : Nat) (v : Option Value) (h : Heap) (L : List Loc) : Prop := v = some (.ref a1) ∧ Fr n0 L ∧ Keep h0 h [a1] ∧ Fld Z h a1 "com/example/tidewell/tidewell/engine/CsvParser$FieldText" "bytes" "[B" (.ref a2) ∧ Fld Z h a1 "com/example/tidewell/tidewell/engine/CsvParser$FieldText" "offset" "I" (.int p3) ∧ Fld Z h a1 "com/example/tidewell/tidewell/engine/CsvParser$FieldText" "length" "I" (.int p4)
set_option maxRecDepth 65536 in
set_option maxHeartbeats 40000000 in
theorem rm5 (l : Launch) (Z : State) (a0 : Array Value) (hw : ∀ d ∈ tables_1, d.before a0 Z = true) (ws : List Jvm.Cond) (a1 : Addr) (a2 : Addr) (p3 : Int32) (p4 : Int32) (u1 : Value) (u2 : Value) (u3 : Value) (h0 : Heap) (n0 : Nat) (Z0 : n0 ≤ h0.size) (E_a1 : Exa Z h0 a1 "com/example/tidewell/tidewell/engine/CsvParser$FieldText") (ge_a1 : n0 ≤ a1) (F_bytes_a1 : Fld Z h0 a1 "com/example/tidewell/tidewell/engine/CsvParser$FieldText" "bytes" "[B" u1) (F_offset_a1 : Fld Z h0 a1 "com/example/tidewell/tidewell/engine/CsvParser$FieldText" "offset" "I" u2) (F_length_a1 : Fld Z h0 a1 "com/example/tidewell/tidewell/engine/CsvParser$FieldText" "length" "I" u3) :
    MetFree l (⟨"com/example/tidewell/tidewell/engine/CsvParser$FieldText", "of", "([BII)Lcom/example/tidewell/tidewell/engine/CsvParser$FieldText;"⟩ : MethodName) (head1 (Jvm.Cond.code (⟨"com/example/tidewell/tidewell/engine/CsvParser$FieldText", "of", "([BII)Lcom/example/tidewell/tidewell/engine/CsvParser$FieldText;"⟩ : MethodName) prog_31_method_2_code 4 (some (.object "com/example/tidewell/tidewell/engine/CsvParser$FieldText")) :: ws) ({ frames := 0, cells := 0, slots := 0, locals := 0 } : Room)) (fun a U => a = #[(.ref a1), (.ref a2), (.int p3), (.int p4)] ∧ Z.Warmed39 U.vm ∧ U.heap = h0) (fun _ _ _ _ _ => True) (fun _ U o U' => ∃ v L, o = .returned v ∧ Q5 Z a1 a2 p3 p4 u1 u2 u3 h0 n0 v U'.heap L ∧ FrameEnd U o U' L ({ frames := 0, cells := 0, slots := 0, locals := 0 } : Room).cells ({ frames := 0, cells := 0, slots := 0, locals := 0 } : Room).slots) := by
  refine MetFree.of_bodySF (plainFor_of_name pn_com_example_tidewell_tidewell_engine_CsvParser_FieldText) hisR ?_
  intro p e s m args below meth c s₁ Bd hml0 hP hK
  obtain ⟨rfl, hZ, hh⟩ := hP
  have hx := Bd.exec
  have hby := Bd.bytes
  have hlk : meth.locks = false := BodyLoose.notSynchronized Bd
  have hml : c.maxLocals = 4 := hml0
  have hown : s.vm.findClass "com/example/tidewell/tidewell/engine/CsvParser$FieldText" = some m.cls := findClass_of_methodNamed Bd.named
  have hnm := (name_of_methodNamed Bd.named Bd.method).1
  have X0 : Stand p l e ({ frames := 0, cells := 0, slots := 0, locals := 0 } : Room) s m #[(.ref a1), (.ref a2), (.int p3), (.int p4)] below meth c s₁ [] 0 0 := Stand.of_body Bd
  have e0 : s₁.heap = h0 := by rw [← hh, Bd.state]; rfl
  have N0 := Fr.nil n0
  show Go p.tables e below s (Q5 Z a1 a2 p3 p4 u1 u2 u3 h0 n0) ({ frames := 0, cells := 0, slots := 0, locals := 0 } : Room).cells ({ frames := 0, cells := 0, slots := 0, locals := 0 } : Room).slots (s₁.setTop (entryFrame m #[(.ref a1), (.ref a2), (.int p3), (.int p4)] 4))
  refine Go.on (fun t k => castTop (ef_5 m a1 a2 p3 p4) k) ?_
  show Go p.tables e below s _ _ _ (s₁.setTop (mkF m 0 #[.val (.ref a1), .val (.ref a2), .val (.int p3), .val (.int p4)] []))
  refine Go.on (fun t k => XS.aloadN X0.here hx rfl (hb hby d5_0) rfl rfl k) ?_
  show Go p.tables e below s _ _ _ (s₁.setTop (mkF m 1 #[.val (.ref a1), .val (.ref a2), .val (.int p3), .val (.int p4)] [(.ref a1)]))
  refine Go.on (fun t k => XS.aloadN X0.here hx rfl (hb hby d5_1) rfl rfl k) ?_
  show Go p.tables e below s _ _ _ (s₁.setTop (mkF m 2 #[.val (.ref a1), .val (.ref a2), .val (.int p3), .val (.int p4)] [(.ref a2), (.ref a1)]))
  obtain ⟨T1, h1, X1, e1, W1, st1⟩ := putF X0 hx hZ hown (host := "") (Or.inl (hw _ (List.mem_of_getElem? (i := 23) rfl))) Via.refl e0 F_bytes_a1 E_a1 (Or.inl (hw _ (List.mem_of_getElem? (i := 24) rfl))) (hw _ (List.mem_of_getElem? (i := 10) rfl)) (ty := (.array .byte)) (by decide) rfl rfl (g := (mkF m 2 #[.val (.ref a1), .val (.ref a2), .val (.int p3), .val (.int p4)] [(.ref a2), (.ref a1)])) rfl rfl (hb hby d5_2)
  have E_a1_2 := E_a1.wr W1
  have F_bytes_a1_3 := F_bytes_a1.same W1
  have F_offset_a1_4 := F_offset_a1.other W1 (Or.inr (slot_ne (Or.inl (hw _ (List.mem_of_getElem? (i := 26) rfl))) (Or.inl (hw _ (List.mem_of_getElem? (i := 24) rfl))) (by decide) (t := .int) (t' := (.array .byte)) (by decide) (by decide)))
  have F_length_a1_5 := F_length_a1.other W1 (Or.inr (slot_ne (Or.inl (hw _ (List.mem_of_getElem? (i := 28) rfl))) (Or.inl (hw _ (List.mem_of_getElem? (i := 24) rfl))) (by decide) (t := .int) (t' := (.array .byte)) (by decide) (by decide)))
  have Zp6 := Nat.le_trans Z0 (Keep.of_wr W1).1
  have Kp7 := (Keep.refl h0 [a1]).wr W1 (Or.inl (List.mem_of_getElem? (i := 0) rfl))
  have Np8 := Fr.snoc X1 N0 ge_a1
  refine Go.on st1 ?_
  show Go p.tables e below s _ _ _ (T1.setTop (mkF m 5 #[.val (.ref a1), .val (.ref a2), .val (.int p3), .val (.int p4)] []))
  refine Go.on (fun t k => XS.aloadN X1.here hx rfl (hb hby d5_5) rfl rfl k) ?_
  show Go p.tables e below s _ _ _ (T1.setTop (mkF m 6 #[.val (.ref a1), .val (.ref a2), .val (.int p3), .val (.int p4)] [(.ref a1)]))
  refine Go.on (fun t k => XS.iloadN X1.here hx rfl (hb hby d5_6) rfl k) ?_
  show Go p.tables e below s _ _ _ (T1.setTop (mkF m 7 #[.val (.ref a1), .val (.ref a2), .val (.int p3), .val (.int p4)] [(.int p3), (.ref a1)]))
  obtain ⟨T9, h9, X9, e9, W9, st9⟩ := putF X1 hx hZ hown (host := "") (Or.inl (hw _ (List.mem_of_getElem? (i := 25) rfl))) Via.refl e1 F_offset_a1_4 E_a1_2 (Or.inl (hw _ (List.mem_of_getElem? (i := 26) rfl))) (hw _ (List.mem_of_getElem? (i := 10) rfl)) (ty := .int) (by decide) rfl rfl (g := (mkF m 7 #[.val (.ref a1), .val (.ref a2), .val (.int p3), .val (.int p4)] [(.int p3), (.ref a1)])) rfl rfl (hb hby d5_7)
  have E_a1_10 := E_a1_2.wr W9
  have F_bytes_a1_11 := F_bytes_a1_3.other W9 (Or.inr (slot_ne (Or.inl (hw _ (List.mem_of_getElem? (i := 24) rfl))) (Or.inl (hw _ (List.mem_of_getElem? (i := 26) rfl))) (by decide) (t := (.array .byte)) (t' := .int) (by decide) (by decide)))
  have F_offset_a1_12 := F_offset_a1_4.same W9
  have F_length_a1_13 := F_length_a1_5.other W9 (Or.inr (slot_ne (Or.inl (hw _ (List.mem_of_getElem? (i := 28) rfl))) (Or.inl (hw _ (List.mem_of_getElem? (i := 26) rfl))) (by decide) (t := .int) (t' := .int) (by decide) (by decide)))
  have Zp14 := Nat.le_trans Zp6 (Keep.of_wr W9).1
  have Kp15 := Kp7.wr W9 (Or.inl (List.mem_of_getElem? (i := 0) rfl))
  have Np16 := Fr.snoc X9 Np8 ge_a1
  refine Go.on st9 ?_
  show Go p.tables e below s _ _ _ (T9.setTop (mkF m 10 #[.val (.ref a1), .val (.ref a2), .val (.int p3), .val (.int p4)] []))
  refine Go.on (fun t k => XS.aloadN X9.here hx rfl (hb hby d5_10) rfl rfl k) ?_
  show Go p.tables e below s _ _ _ (T9.setTop (mkF m 11 #[.val (.ref a1), .val (.ref a2), .val (.int p3), .val (.int p4)] [(.ref a1)]))
  refine Go.on (fun t k => XS.iloadN X9.here hx rfl (hb hby d5_11) rfl k) ?_
  show Go p.tables e below s _ _ _ (T9.setTop (mkF m 12 #[.val (.ref a1), .val (.ref a2), .val (.int p3), .val (.int p4)] [(.int p4), (.ref a1)]))
  obtain ⟨T17, h17, X17, e17, W17, st17⟩ := putF X9 hx hZ hown (host := "") (Or.inl (hw _ (List.mem_of_getElem? (i := 27) rfl))) Via.refl e9 F_length_a1_13 E_a1_10 (Or.inl (hw _ (List.mem_of_getElem? (i := 28) rfl))) (hw _ (List.mem_of_getElem? (i := 10) rfl)) (ty := .int) (by decide) rfl rfl (g := (mkF m 12 #[.val (.ref a1), .val (.ref a2), .val (.int p3), .val (.int p4)] [(.int p4), (.ref a1)])) rfl rfl (hb hby d5_12)
  have E_a1_18 := E_a1_10.wr W17
  have F_bytes_a1_19 := F_bytes_a1_11.other W17 (Or.inr (slot_ne (Or.inl (hw _ (List.mem_of_getElem? (i := 24) rfl))) (Or.inl (hw _ (List.mem_of_getElem? (i := 28) rfl))) (by decide) (t := (.array .byte)) (t' := .int) (by decide) (by decide)))
  have F_offset_a1_20 := F_offset_a1_12.other W17 (Or.inr (slot_ne (Or.inl (hw _ (List.mem_of_getElem? (i := 26) rfl))) (Or.inl (hw _ (List.mem_of_getElem? (i := 28) rfl))) (by decide) (t := .int) (t' := .int) (by decide) (by decide)))
  have F_length_a1_21 := F_length_a1_13.same W17
  have Zp22 := Nat.le_trans Zp14 (Keep.of_wr W17).1
  have Kp23 := Kp15.wr W17 (Or.inl (List.mem_of_getElem? (i := 0) rfl))
  have Np24 := Fr.snoc X17 Np16 ge_a1
  refine Go.on st17 ?_
  show Go p.tables e below s _ _ _ (T17.setTop (mkF m 15 #[.val (.ref a1), .val (.ref a2), .val (.int p3), .val (.int p4)] []))
  refine Go.on (fun t k => XS.aloadN X17.here hx rfl (hb hby d5_15) rfl rfl k) ?_
  show Go p.tables e below s _ _ _ (T17.setTop (mkF m 16 #[.val (.ref a1), .val (.ref a2), .val (.int p3), .val (.int p4)] [(.ref a1)]))
  refine Go.retA X17 hx hlk (w := (.ref a1)) rfl Bd.returns rfl (hb hby d5_16) (by decide) (by decide) e17 ?_
  exact ⟨rfl, Np24, Kp23, F_bytes_a1_19, F_offset_a1_20, F_length_a1_21⟩
theorem d6_0 : decode prog_31_method_4_code 0 = .ok (.iconst 0, 1) := by decide +kernel
theorem d6_1 : decode prog_31_method_4_code 1 = .ok (.istore_n 1, 1) := by decide +kernel
theorem d6_2 : decode prog_31_method_4_code 2 = .ok (.aload_n 0, 1) := by decide +kernel
theorem d6_3 : decode prog_31_method_4_code 3 = .ok (.getfield 13, 3) := by decide +kernel
theorem d6_6 : decode prog_31_method_4_code 6 = .ok (.aload_n 0, 1) := by decide +kernel
theorem d6_7 : decode prog_31_method_4_code 7 = .ok (.getfield 17, 3) := by decide +kernel
theorem d6_10 : decode prog_31_method_4_code 10 = .ok (.iadd, 1) := by decide +kernel
theorem d6_11 : decode prog_31_method_4_code 11 = .ok (.istore_n 2, 1) := by decide +kernel
theorem d6_12 : decode prog_31_method_4_code 12 = .ok (.aload_n 0, 1) := by decide +kernel
theorem d6_13 : decode prog_31_method_4_code 13 = .ok (.getfield 13, 3) := by decide +kernel
theorem d6_16 : decode prog_31_method_4_code 16 = .ok (.istore_n 3, 1) := by decide +kernel
theorem d6_17 : decode prog_31_method_4_code 17 = .ok (.iload_n 3, 1) := by decide +kernel
theorem d6_18 : decode prog_31_method_4_code 18 = .ok (.iconst 4, 1) := by decide +kernel
theorem d6_19 : decode prog_31_method_4_code 19 = .ok (.iadd, 1) := by decide +kernel
theorem d6_20 : decode prog_31_method_4_code 20 = .ok (.iload_n 2, 1) := by decide +kernel
theorem d6_21 : decode prog_31_method_4_code 21 = .ok (.if_icmp .gt 59, 3) := by decide +kernel
theorem d6_24 : decode prog_31_method_4_code 24 = .ok (.iload_n 1, 1) := by decide +kernel
theorem d6_25 : decode prog_31_method_4_code 25 = .ok (.ldc 20, 2) := by decide +kernel
theorem d6_27 : decode prog_31_method_4_code 27 = .ok (.imul, 1) := by decide +kernel
theorem d6_28 : decode prog_31_method_4_code 28 = .ok (.aload_n 0, 1) := by decide +kernel
theorem d6_29 : decode prog_31_method_4_code 29 = .ok (.getfield 7, 3) := by decide +kernel
theorem d6_32 : decode prog_31_method_4_code 32 = .ok (.iload_n 3, 1) := by decide +kernel
theorem d6_33 : decode prog_31_method_4_code 33 = .ok (.baload, 1) := by decide +kernel
theorem d6_34 : decode prog_31_method_4_code 34 = .ok (.sipush 29791, 3) := by decide +kernel
theorem d6_37 : decode prog_31_method_4_code 37 = .ok (.imul, 1) := by decide +kernel
theorem d6_38 : decode prog_31_method_4_code 38 = .ok (.iadd, 1) := by decide +kernel
theorem d6_39 : decode prog_31_method_4_code 39 = .ok (.aload_n 0, 1) := by decide +kernel
theorem d6_40 : decode prog_31_method_4_code 40 = .ok (.getfield 7, 3) := by decide +kernel
theorem d6_43 : decode prog_31_method_4_code 43 = .ok (.iload_n 3, 1) := by decide +kernel
theorem d6_44 : decode prog_31_method_4_code 44 = .ok (.iconst 1, 1) := by decide +kernel
theorem d6_45 : decode prog_31_method_4_code 45 = .ok (.iadd, 1) := by decide +kernel
theorem d6_46 : decode prog_31_method_4_code 46 = .ok (.baload, 1) := by decide +kernel
theorem d6_47 : decode prog_31_method_4_code 47 = .ok (.sipush 961, 3) := by decide +kernel
theorem d6_50 : decode prog_31_method_4_code 50 = .ok (.imul, 1) := by decide +kernel
theorem d6_51 : decode prog_31_method_4_code 51 = .ok (.iadd, 1) := by decide +kernel
theorem d6_52 : decode prog_31_method_4_code 52 = .ok (.aload_n 0, 1) := by decide +kernel
theorem d6_53 : decode prog_31_method_4_code 53 = .ok (.getfield 7, 3) := by decide +kernel
theorem d6_56 : decode prog_31_method_4_code 56 = .ok (.iload_n 3, 1) := by decide +kernel
theorem d6_57 : decode prog_31_method_4_code 57 = .ok (.iconst 2, 1) := by decide +kernel
theorem d6_58 : decode prog_31_method_4_code 58 = .ok (.iadd, 1) := by decide +kernel
theorem d6_59 : decode prog_31_method_4_code 59 = .ok (.baload, 1) := by decide +kernel
theorem d6_60 : decode prog_31_method_4_code 60 = .ok (.bipush 31, 2) := by decide +kernel
theorem d6_62 : decode prog_31_method_4_code 62 = .ok (.imul, 1) := by decide +kernel
theorem d6_63 : decode prog_31_method_4_code 63 = .ok (.iadd, 1) := by decide +kernel
theorem d6_64 : decode prog_31_method_4_code 64 = .ok (.aload_n 0, 1) := by decide +kernel
theorem d6_65 : decode prog_31_method_4_code 65 = .ok (.getfield 7, 3) := by decide +kernel
theorem d6_68 : decode prog_31_method_4_code 68 = .ok (.iload_n 3, 1) := by decide +kernel
theorem d6_69 : decode prog_31_method_4_code 69 = .ok (.iconst 3, 1) := by decide +kernel
theorem d6_70 : decode prog_31_method_4_code 70 = .ok (.iadd, 1) := by decide +kernel
theorem d6_71 : decode prog_31_method_4_code 71 = .ok (.baload, 1) := by decide +kernel
theorem d6_72 : decode prog_31_method_4_code 72 = .ok (.iadd, 1) := by decide +kernel
theorem d6_73 : decode prog_31_method_4_code 73 = .ok (.istore_n 1, 1) := by decide +kernel
theorem d6_74 : decode prog_31_method_4_code 74 = .ok (.iinc 3 4, 3) := by decide +kernel
theorem d6_77 : decode prog_31_method_4_code 77 = .ok (.goto (-60), 3) := by decide +kernel
theorem d6_80 : decode prog_31_method_4_code 80 = .ok (.iload_n 3, 1) := by decide +kernel
theorem d6_81 : decode prog_31_method_4_code 81 = .ok (.iload_n 2, 1) := by decide +kernel
theorem d6_82 : decode prog_31_method_4_code 82 = .ok (.if_icmp .ge 21, 3) := by decide +kernel
theorem d6_85 : decode prog_31_method_4_code 85 = .ok (.bipush 31, 2) := by decide +kernel
theorem d6_87 : decode prog_31_method_4_code 87 = .ok (.iload_n 1, 1) := by decide +kernel
theorem d6_88 : decode prog_31_method_4_code 88 = .ok (.imul, 1) := by decide +kernel
theorem d6_89 : decode prog_31_method_4_code 89 = .ok (.aload_n 0, 1) := by decide +kernel
theorem d6_90 : decode prog_31_method_4_code 90 = .ok (.getfield 7, 3) := by decide +kernel
theorem d6_93 : decode prog_31_method_4_code 93 = .ok (.iload_n 3, 1) := by decide +kernel
theorem d6_94 : decode prog_31_method_4_code 94 = .ok (.baload, 1) := by decide +kernel
theorem d6_95 : decode prog_31_method_4_code 95 = .ok (.iadd, 1) := by decide +kernel
theorem d6_96 : decode prog_31_method_4_code 96 = .ok (.istore_n 1, 1) := by decide +kernel
theorem d6_97 : decode prog_31_method_4_code 97 = .ok (.iinc 3 1, 3) := by decide +kernel
theorem d6_100 : decode prog_31_method_4_code 100 = .ok (.goto (-20), 3) := by decide +kernel
theorem d6_103 : decode prog_31_method_4_code 103 = .ok (.iload_n 1, 1) := by decide +kernel
theorem d6_104 : decode prog_31_method_4_code 104 = .ok (.ireturn, 1) := by decide +kernel
theorem ef_6 (m : MethodId) (x0 : Addr) : entryFrame m #[(.ref x0)] 4 = mkF m 0 #[.val (.ref x0), .unset, .unset, .unset] [] := by first | (simp [entryFrame, mkF, argsToLocals, Value.category]; done) | rfl
def Q6 (Z : State) (a1 : Addr) (a2 : Addr) (k : ClassId) (ds : List Int32) (oo : Nat) (n : Nat) (h0 : Heap) (n0 : Nat) (v : Option Value) (h : Heap) (L : List Loc) : Prop := v = some (.int (own_h ds oo n)) ∧ Fr n0 L ∧ h = h0
set_option maxRecDepth 65536 in
set_option maxHeartbeats 40000000 in
theorem rm6 (l : Launch) (Z : State) (a0 : Array Value) (hw : ∀ d ∈ tables_1, d.before a0 Z = true) (ws : List Jvm.Cond) (a1 : Addr) (a2 : Addr) (k : ClassId) (ds : List Int32) (oo : Nat) (n : Nat) (h0 : Heap) (n0 : Nat) (Z0 : n0 ≤ h0.size) (F_bytes_a1 : Fld Z h0 a1 "com/example/tidewell/tidewell/engine/CsvParser$FieldText" "bytes" "[B" (.ref a2)) (F_offset_a1 : Fld Z h0 a1 "com/example/tidewell/tidewell/engine/CsvParser$FieldText" "offset" "I" (.int (Int32.ofNat oo))) (F_length_a1 : Fld Z h0 a1 "com/example/tidewell/tidewell/engine/CsvParser$FieldText" "length" "I" (.int (Int32.ofNat n))) (V_a2 : Arv Z h0 a2 k .byte (16 : Int32) (ds.map Value.int) (.int (0 : Int32))) (hb1 : oo ≤ 3 ∧ n ≤ 12) :
    MetFree l (⟨"com/example/tidewell/tidewell/engine/CsvParser$FieldText", "textHash", "()I"⟩ : MethodName) (head1 (Jvm.Cond.code (⟨"com/example/tidewell/tidewell/engine/CsvParser$FieldText", "textHash", "()I"⟩ : MethodName) prog_31_method_4_code 4 (some .int) :: ws) ({ frames := 0, cells := 0, slots := 0, locals := 0 } : Room)) (fun a U => a = #[(.ref a1)] ∧ Z.Warmed39 U.vm ∧ U.heap = h0) (fun _ _ _ _ _ => True) (fun _ U o U' => ∃ v L, o = .returned v ∧ Q6 Z a1 a2 k ds oo n h0 n0 v U'.heap L ∧ FrameEnd U o U' L ({ frames := 0, cells := 0, slots := 0, locals := 0 } : Room).cells ({ frames := 0, cells := 0, slots := 0, locals := 0 } : Room).slots) := by
  refine MetFree.of_bodySF (plainFor_of_name pn_com_example_tidewell_tidewell_engine_CsvParser_FieldText) hisR ?_
  intro p e s m args below meth c s₁ Bd hml0 hP hK
  obtain ⟨rfl, hZ, hh⟩ := hP
  have hx := Bd.exec
  have hby := Bd.bytes
  have hlk : meth.locks = false := BodyLoose.notSynchronized Bd
  have hml : c.maxLocals = 4 := hml0
  have hown : s.vm.findClass "com/example/tidewell/tidewell/engine/CsvParser$FieldText" = some m.cls := findClass_of_methodNamed Bd.named
  have hnm := (name_of_methodNamed Bd.named Bd.method).1
  have X0 : Stand p l e ({ frames := 0, cells := 0, slots := 0, locals := 0 } : Room) s m #[(.ref a1)] below meth c s₁ [] 0 0 := Stand.of_body Bd
  have e0 : s₁.heap = h0 := by rw [← hh, Bd.state]; rfl
  have N0 := Fr.nil n0
  show Go p.tables e below s (Q6 Z a1 a2 k ds oo n h0 n0) ({ frames := 0, cells := 0, slots := 0, locals := 0 } : Room).cells ({ frames := 0, cells := 0, slots := 0, locals := 0 } : Room).slots (s₁.setTop (entryFrame m #[(.ref a1)] 4))
  refine Go.on (fun t k => castTop (ef_6 m a1) k) ?_
  show Go p.tables e below s _ _ _ (s₁.setTop (mkF m 0 #[.val (.ref a1), .unset, .unset, .unset] []))
  have loop2 : ∀ (k2 j : Nat) (TL : State) (XL : Stand p l e ({ frames := 0, cells := 0, slots := 0, locals := 0 } : Room) s m #[(.ref a1)] below meth c TL [] 0 0) (eL : TL.heap = h0), j + k2 = n → Go p.tables e below s (Q6 Z a1 a2 k ds oo n h0 n0) ({ frames := 0, cells := 0, slots := 0, locals := 0 } : Room).cells ({ frames := 0, cells := 0, slots := 0, locals := 0 } : Room).slots (TL.setTop (mkF m 80 #[.val (.ref a1), .val (.int (own_h ds oo j)), .val (.int (Int32.ofNat (oo + n))), .val (.int (Int32.ofNat (oo + j)))] [])) := by
    intro k2
    induction k2 with
    | zero =>
      intro j TL XL eL hj
      refine Go.on (fun t k => XS.iloadN XL.here hx rfl (hb hby d6_80) rfl k) ?_
      show Go p.tables e below s _ _ _ (TL.setTop (mkF m 81 #[.val (.ref a1), .val (.int (own_h ds oo j)), .val (.int (Int32.ofNat (oo + n))), .val (.int (Int32.ofNat (oo + j)))] [(.int (Int32.ofNat (oo + j)))]))
      refine Go.on (fun t k => XS.iloadN XL.here hx rfl (hb hby d6_81) rfl k) ?_
      show Go p.tables e below s _ _ _ (TL.setTop (mkF m 82 #[.val (.ref a1), .val (.int (own_h ds oo j)), .val (.int (Int32.ofNat (oo + n))), .val (.int (Int32.ofNat (oo + j)))] [(.int (Int32.ofNat (oo + n))), (.int (Int32.ofNat (oo + j)))]))
      have hc : ¬ Int32.ofNat (oo + j) < (Int32.ofNat (oo + n)) := fun q => by have := (own_lt (by omega) (by omega)).mp q; omega
      refine Go.on (fun t k => XS.icmpYes XL.here hx rfl (pc0 := 82) (pc' := 103) rfl (hb hby d6_82) rfl (flt hc).2.1 (by decide) (by decide) k) ?_
      show Go p.tables e below s _ _ _ (TL.setTop (mkF m 103 #[.val (.ref a1), .val (.int (own_h ds oo j)), .val (.int (Int32.ofNat (oo + n))), .val (.int (Int32.ofNat (oo + j)))] []))
      obtain rfl : j = n := by omega
      refine Go.on (fun t k => XS.iloadN XL.here hx rfl (hb hby d6_103) rfl k) ?_
      show Go p.tables e below s _ _ _ (TL.setTop (mkF m 104 #[.val (.ref a1), .val (.int (own_h ds oo j)), .val (.int (Int32.ofNat (oo + j))), .val (.int (Int32.ofNat (oo + j)))] [(.int (own_h ds oo j))]))
      refine Go.retI XL hx hlk Bd.returns (hb hby d6_104) (by decide) (by decide) eL ?_
      exact ⟨rfl, N0, rfl⟩
    | succ k2 ih =>
      intro j TL XL eL hj
      refine Go.on (fun t k => XS.iloadN XL.here hx rfl (hb hby d6_80) rfl k) ?_
      show Go p.tables e below s _ _ _ (TL.setTop (mkF m 81 #[.val (.ref a1), .val (.int (own_h ds oo j)), .val (.int (Int32.ofNat (oo + n))), .val (.int (Int32.ofNat (oo + j)))] [(.int (Int32.ofNat (oo + j)))]))
      refine Go.on (fun t k => XS.iloadN XL.here hx rfl (hb hby d6_81) rfl k) ?_
      show Go p.tables e below s _ _ _ (TL.setTop (mkF m 82 #[.val (.ref a1), .val (.int (own_h ds oo j)), .val (.int (Int32.ofNat (oo + n))), .val (.int (Int32.ofNat (oo + j)))] [(.int (Int32.ofNat (oo + n))), (.int (Int32.ofNat (oo + j)))]))
      have hc : Int32.ofNat (oo + j) < (Int32.ofNat (oo + n)) := (own_lt (by omega) (by omega)).mpr (by omega)
      refine Go.on (fun t k => XS.icmpNo XL.here hx rfl (hb hby d6_82) rfl (tlt hc).2.1 k) ?_
      show Go p.tables e below s _ _ _ (TL.setTop (mkF m 85 #[.val (.ref a1), .val (.int (own_h ds oo j)), .val (.int (Int32.ofNat (oo + n))), .val (.int (Int32.ofNat (oo + j)))] []))
      refine Go.on (fun t k => XS.bipush XL.here hx rfl (hb hby d6_85) k) ?_
      show Go p.tables e below s _ _ _ (TL.setTop (mkF m 87 #[.val (.ref a1), .val (.int (own_h ds oo j)), .val (.int (Int32.ofNat (oo + n))), .val (.int (Int32.ofNat (oo + j)))] [(.int (31 : Int32))]))
      refine Go.on (fun t k => XS.iloadN XL.here hx rfl (hb hby d6_87) rfl k) ?_
      show Go p.tables e below s _ _ _ (TL.setTop (mkF m 88 #[.val (.ref a1), .val (.int (own_h ds oo j)), .val (.int (Int32.ofNat (oo + n))), .val (.int (Int32.ofNat (oo + j)))] [(.int (own_h ds oo j)), (.int (31 : Int32))]))
      refine Go.on (fun t k => XS.imul XL.here hx rfl (hb hby d6_88) rfl k) ?_
      show Go p.tables e below s _ _ _ (TL.setTop (mkF m 89 #[.val (.ref a1), .val (.int (own_h ds oo j)), .val (.int (Int32.ofNat (oo + n))), .val (.int (Int32.ofNat (oo + j)))] [(.int ((31 : Int32) * (own_h ds oo j)))]))
      refine Go.on (fun t k => XS.aloadN XL.here hx rfl (hb hby d6_89) rfl rfl k) ?_
      show Go p.tables e below s _ _ _ (TL.setTop (mkF m 90 #[.val (.ref a1), .val (.int (own_h ds oo j)), .val (.int (Int32.ofNat (oo + n))), .val (.int (Int32.ofNat (oo + j)))] [(.ref a1), (.int ((31 : Int32) * (own_h ds oo j)))]))
      obtain ⟨T1, X1, e1, st1⟩ := getF XL hx hZ hown (host := "") (Or.inl (hw _ (List.mem_of_getElem? (i := 23) rfl))) Via.refl eL F_bytes_a1 (g := (mkF m 90 #[.val (.ref a1), .val (.int (own_h ds oo j)), .val (.int (Int32.ofNat (oo + n))), .val (.int (Int32.ofNat (oo + j)))] [(.ref a1), (.int ((31 : Int32) * (own_h ds oo j)))])) rfl rfl (hb hby d6_90)
      refine Go.on st1 ?_
      show Go p.tables e below s _ _ _ (T1.setTop (mkF m 93 #[.val (.ref a1), .val (.int (own_h ds oo j)), .val (.int (Int32.ofNat (oo + n))), .val (.int (Int32.ofNat (oo + j)))] [(.ref a2), (.int ((31 : Int32) * (own_h ds oo j)))]))
      refine Go.on (fun t k => XS.iloadN X1.here hx rfl (hb hby d6_93) rfl k) ?_
      show Go p.tables e below s _ _ _ (T1.setTop (mkF m 94 #[.val (.ref a1), .val (.int (own_h ds oo j)), .val (.int (Int32.ofNat (oo + n))), .val (.int (Int32.ofNat (oo + j)))] [(.int (Int32.ofNat (oo + j))), (.ref a2), (.int ((31 : Int32) * (own_h ds oo j)))]))
      obtain ⟨cl2, Ar2, q2, S2, M2, H2, G2⟩ := id V_a2
      have hin2 : ¬ ((Int32.ofNat (oo + j)) < 0 ∨ cl2.slots.size ≤ ((Int32.ofNat (oo + j))).toNatClampNeg) := inb_of S2 (own_in (by omega))
      have hat2 : cl2.slots[((Int32.ofNat (oo + j))).toNatClampNeg]? = some (.int (ds.getD (oo + j) 0)) := H2.at hin2 (own_at ds (by omega))
      refine Go.on (fun t k => X1.baloadBytes hx (j := (Int32.ofNat (oo + j))) (v := (.int (ds.getD (oo + j) 0))) (by rw [e1]; exact Ar2.1) (State.isArrayOf_alike hZ.alike Ar2.2.1) Ar2.2.2 hin2 hat2 (g := (mkF m 94 #[.val (.ref a1), .val (.int (own_h ds oo j)), .val (.int (Int32.ofNat (oo + n))), .val (.int (Int32.ofNat (oo + j)))] [(.int (Int32.ofNat (oo + j))), (.ref a2), (.int ((31 : Int32) * (own_h ds oo j)))])) rfl rfl (hb hby d6_94) t k) ?_
      show Go p.tables e below s _ _ _ (T1.setTop (mkF m 95 #[.val (.ref a1), .val (.int (own_h ds oo j)), .val (.int (Int32.ofNat (oo + n))), .val (.int (Int32.ofNat (oo + j)))] [(.int (ds.getD (oo + j) 0)), (.int ((31 : Int32) * (own_h ds oo j)))]))
      refine Go.on (fun t k => XS.iadd X1.here hx rfl (hb hby d6_95) rfl k) ?_
      show Go p.tables e below s _ _ _ (T1.setTop (mkF m 96 #[.val (.ref a1), .val (.int (own_h ds oo j)), .val (.int (Int32.ofNat (oo + n))), .val (.int (Int32.ofNat (oo + j)))] [(.int (((31 : Int32) * (own_h ds oo j)) + (ds.getD (oo + j) 0)))]))
      refine Go.on (fun t k => XS.istoreN X1.here hx rfl (hb hby d6_96) rfl (l' := #[.val (.ref a1), .val (.int (((31 : Int32) * (own_h ds oo j)) + (ds.getD (oo + j) 0))), .val (.int (Int32.ofNat (oo + n))), .val (.int (Int32.ofNat (oo + j)))]) rfl k) ?_
      show Go p.tables e below s _ _ _ (T1.setTop (mkF m 97 #[.val (.ref a1), .val (.int (((31 : Int32) * (own_h ds oo j)) + (ds.getD (oo + j) 0))), .val (.int (Int32.ofNat (oo + n))), .val (.int (Int32.ofNat (oo + j)))] []))
      refine Go.on (fun t k => XS.iinc X1.here hx rfl (hb hby d6_97) rfl (l' := #[.val (.ref a1), .val (.int (((31 : Int32) * (own_h ds oo j)) + (ds.getD (oo + j) 0))), .val (.int (Int32.ofNat (oo + n))), .val (.int ((Int32.ofNat (oo + j)) + (1 : Int32)))]) rfl k) ?_
      show Go p.tables e below s _ _ _ (T1.setTop (mkF m 100 #[.val (.ref a1), .val (.int (((31 : Int32) * (own_h ds oo j)) + (ds.getD (oo + j) 0))), .val (.int (Int32.ofNat (oo + n))), .val (.int ((Int32.ofNat (oo + j)) + (1 : Int32)))] []))
      rw [show Int32.ofNat (oo + j) + (1 : Int32) = Int32.ofNat (oo + (j + 1)) from own_add (oo + j) 1]
      show Go p.tables e below s _ _ _ (T1.setTop (mkF m 100 #[.val (.ref a1), .val (.int (own_h ds oo (j + 1))), .val (.int (Int32.ofNat (oo + n))), .val (.int (Int32.ofNat (oo + (j + 1))))] []))
      refine Go.on (fun t k => XS.goto X1.here hx rfl (pc0 := 100) (pc' := 80) rfl (hb hby d6_100) (by decide) (by decide) k) ?_
      show Go p.tables e below s _ _ _ (T1.setTop (mkF m 80 #[.val (.ref a1), .val (.int (own_h ds oo (j + 1))), .val (.int (Int32.ofNat (oo + n))), .val (.int (Int32.ofNat (oo + (j + 1))))] []))
      exact ih (j + 1) T1 X1 e1 (by omega)
  have loop1 : ∀ (k2 j : Nat) (TL : State) (XL : Stand p l e ({ frames := 0, cells := 0, slots := 0, locals := 0 } : Room) s m #[(.ref a1)] below meth c TL [] 0 0) (eL : TL.heap = h0), j ≤ n → n - j < k2 → Go p.tables e below s (Q6 Z a1 a2 k ds oo n h0 n0) ({ frames := 0, cells := 0, slots := 0, locals := 0 } : Room).cells ({ frames := 0, cells := 0, slots := 0, locals := 0 } : Room).slots (TL.setTop (mkF m 17 #[.val (.ref a1), .val (.int (own_h ds oo j)), .val (.int (Int32.ofNat (oo + n))), .val (.int (Int32.ofNat (oo + j)))] [])) := by
    intro k2
    induction k2 with
    | zero => intro j TL XL eL h1 h2; omega
    | succ k2 ih =>
      intro j TL XL eL hj hk2
      refine Go.on (fun t k => XS.iloadN XL.here hx rfl (hb hby d6_17) rfl k) ?_
      show Go p.tables e below s _ _ _ (TL.setTop (mkF m 18 #[.val (.ref a1), .val (.int (own_h ds oo j)), .val (.int (Int32.ofNat (oo + n))), .val (.int (Int32.ofNat (oo + j)))] [(.int (Int32.ofNat (oo + j)))]))
      refine Go.on (fun t k => XS.iconst XL.here hx rfl (hb hby d6_18) k) ?_
      show Go p.tables e below s _ _ _ (TL.setTop (mkF m 19 #[.val (.ref a1), .val (.int (own_h ds oo j)), .val (.int (Int32.ofNat (oo + n))), .val (.int (Int32.ofNat (oo + j)))] [(.int (4 : Int32)), (.int (Int32.ofNat (oo + j)))]))
      refine Go.on (fun t k => XS.iadd XL.here hx rfl (hb hby d6_19) rfl k) ?_
      show Go p.tables e below s _ _ _ (TL.setTop (mkF m 20 #[.val (.ref a1), .val (.int (own_h ds oo j)), .val (.int (Int32.ofNat (oo + n))), .val (.int (Int32.ofNat (oo + j)))] [(.int ((Int32.ofNat (oo + j)) + (4 : Int32)))]))
      rw [show Int32.ofNat (oo + j) + (4 : Int32) = Int32.ofNat (oo + j + 4) from own_add (oo + j) 4]
      show Go p.tables e below s _ _ _ (TL.setTop (mkF m 20 #[.val (.ref a1), .val (.int (own_h ds oo j)), .val (.int (Int32.ofNat (oo + n))), .val (.int (Int32.ofNat (oo + j)))] [(.int (Int32.ofNat (oo + j + 4)))]))
      refine Go.on (fun t k => XS.iloadN XL.here hx rfl (hb hby d6_20) rfl k) ?_
      show Go p.tables e below s _ _ _ (TL.setTop (mkF m 21 #[.val (.ref a1), .val (.int (own_h ds oo j)), .val (.int (Int32.ofNat (oo + n))), .val (.int (Int32.ofNat (oo + j)))] [(.int (Int32.ofNat (oo + n))), (.int (Int32.ofNat (oo + j + 4)))]))
      by_cases hc : (Int32.ofNat (oo + n)) < Int32.ofNat (oo + j + 4)
      · refine Go.on (fun t k => XS.icmpYes XL.here hx rfl (pc0 := 21) (pc' := 80) rfl (hb hby d6_21) rfl (tlt hc).2.2.1 (by decide) (by decide) k) ?_
        show Go p.tables e below s _ _ _ (TL.setTop (mkF m 80 #[.val (.ref a1), .val (.int (own_h ds oo j)), .val (.int (Int32.ofNat (oo + n))), .val (.int (Int32.ofNat (oo + j)))] []))
        exact loop2 (n - j) j TL XL eL (by omega)
      · have hc4 : oo + j + 4 ≤ oo + n := by have q : ¬ oo + n < oo + j + 4 := fun q => hc ((own_lt (by omega) (by omega)).mpr q); omega
        refine Go.on (fun t k => XS.icmpNo XL.here hx rfl (hb hby d6_21) rfl (flt hc).2.2.1 k) ?_
        show Go p.tables e below s _ _ _ (TL.setTop (mkF m 24 #[.val (.ref a1), .val (.int (own_h ds oo j)), .val (.int (Int32.ofNat (oo + n))), .val (.int (Int32.ofNat (oo + j)))] []))
        refine Go.on (fun t k => XS.iloadN XL.here hx rfl (hb hby d6_24) rfl k) ?_
        show Go p.tables e below s _ _ _ (TL.setTop (mkF m 25 #[.val (.ref a1), .val (.int (own_h ds oo j)), .val (.int (Int32.ofNat (oo + n))), .val (.int (Int32.ofNat (oo + j)))] [(.int (own_h ds oo j))]))
        refine Go.on (fun t k => XL.ldcInt hx hown (mvT hZ (hw _ (List.mem_of_getElem? (i := 34) rfl))) (g := (mkF m 25 #[.val (.ref a1), .val (.int (own_h ds oo j)), .val (.int (Int32.ofNat (oo + n))), .val (.int (Int32.ofNat (oo + j)))] [(.int (own_h ds oo j))])) rfl (hb hby d6_25) t k) ?_
        show Go p.tables e below s _ _ _ (TL.setTop (mkF m 27 #[.val (.ref a1), .val (.int (own_h ds oo j)), .val (.int (Int32.ofNat (oo + n))), .val (.int (Int32.ofNat (oo + j)))] [(.int (923521 : Int32)), (.int (own_h ds oo j))]))
        refine Go.on (fun t k => XS.imul XL.here hx rfl (hb hby d6_27) rfl k) ?_
        show Go p.tables e below s _ _ _ (TL.setTop (mkF m 28 #[.val (.ref a1), .val (.int (own_h ds oo j)), .val (.int (Int32.ofNat (oo + n))), .val (.int (Int32.ofNat (oo + j)))] [(.int ((own_h ds oo j) * (923521 : Int32)))]))
        refine Go.on (fun t k => XS.aloadN XL.here hx rfl (hb hby d6_28) rfl rfl k) ?_
        show Go p.tables e below s _ _ _ (TL.setTop (mkF m 29 #[.val (.ref a1), .val (.int (own_h ds oo j)), .val (.int (Int32.ofNat (oo + n))), .val (.int (Int32.ofNat (oo + j)))] [(.ref a1), (.int ((own_h ds oo j) * (923521 : Int32)))]))
        obtain ⟨T3, X3, e3, st3⟩ := getF XL hx hZ hown (host := "") (Or.inl (hw _ (List.mem_of_getElem? (i := 23) rfl))) Via.refl eL F_bytes_a1 (g := (mkF m 29 #[.val (.ref a1), .val (.int (own_h ds oo j)), .val (.int (Int32.ofNat (oo + n))), .val (.int (Int32.ofNat (oo + j)))] [(.ref a1), (.int ((own_h ds oo j) * (923521 : Int32)))])) rfl rfl (hb hby d6_29)
        refine Go.on st3 ?_
        show Go p.tables e below s _ _ _ (T3.setTop (mkF m 32 #[.val (.ref a1), .val (.int (own_h ds oo j)), .val (.int (Int32.ofNat (oo + n))), .val (.int (Int32.ofNat (oo + j)))] [(.ref a2), (.int ((own_h ds oo j) * (923521 : Int32)))]))
        refine Go.on (fun t k => XS.iloadN X3.here hx rfl (hb hby d6_32) rfl k) ?_
        show Go p.tables e below s _ _ _ (T3.setTop (mkF m 33 #[.val (.ref a1), .val (.int (own_h ds oo j)), .val (.int (Int32.ofNat (oo + n))), .val (.int (Int32.ofNat (oo + j)))] [(.int (Int32.ofNat (oo + j))), (.ref a2), (.int ((own_h ds oo j) * (923521 : Int32)))]))
        obtain ⟨cl4, Ar4, q4, S4, M4, H4, G4⟩ := id V_a2
        have hin4 : ¬ ((Int32.ofNat (oo + j)) < 0 ∨ cl4.slots.size ≤ ((Int32.ofNat (oo + j))).toNatClampNeg) := inb_of S4 (own_in (by omega))
        have hat4 : cl4.slots[((Int32.ofNat (oo + j))).toNatClampNeg]? = some (.int (ds.getD (oo + j) 0)) := H4.at hin4 (own_at ds (by omega))
        refine Go.on (fun t k => X3.baloadBytes hx (j := (Int32.ofNat (oo + j))) (v := (.int (ds.getD (oo + j) 0))) (by rw [e3]; exact Ar4.1) (State.isArrayOf_alike hZ.alike Ar4.2.1) Ar4.2.2 hin4 hat4 (g := (mkF m 33 #[.val (.ref a1), .val (.int (own_h ds oo j)), .val (.int (Int32.ofNat (oo + n))), .val (.int (Int32.ofNat (oo + j)))] [(.int (Int32.ofNat (oo + j))), (.ref a2), (.int ((own_h ds oo j) * (923521 : Int32)))])) rfl rfl (hb hby d6_33) t k) ?_
        show Go p.tables e below s _ _ _ (T3.setTop (mkF m 34 #[.val (.ref a1), .val (.int (own_h ds oo j)), .val (.int (Int32.ofNat (oo + n))), .val (.int (Int32.ofNat (oo + j)))] [(.int (ds.getD (oo + j) 0)), (.int ((own_h ds oo j) * (923521 : Int32)))]))
        refine Go.on (fun t k => XS.sipush X3.here hx rfl (hb hby d6_34) k) ?_
        show Go p.tables e below s _ _ _ (T3.setTop (mkF m 37 #[.val (.ref a1), .val (.int (own_h ds oo j)), .val (.int (Int32.ofNat (oo + n))), .val (.int (Int32.ofNat (oo + j)))] [(.int (29791 : Int32)), (.int (ds.getD (oo + j) 0)), (.int ((own_h ds oo j) * (923521 : Int32)))]))
        refine Go.on (fun t k => XS.imul X3.here hx rfl (hb hby d6_37) rfl k) ?_
        show Go p.tables e below s _ _ _ (T3.setTop (mkF m 38 #[.val (.ref a1), .val (.int (own_h ds oo j)), .val (.int (Int32.ofNat (oo + n))), .val (.int (Int32.ofNat (oo + j)))] [(.int ((ds.getD (oo + j) 0) * (29791 : Int32))), (.int ((own_h ds oo j) * (923521 : Int32)))]))
        refine Go.on (fun t k => XS.iadd X3.here hx rfl (hb hby d6_38) rfl k) ?_
        show Go p.tables e below s _ _ _ (T3.setTop (mkF m 39 #[.val (.ref a1), .val (.int (own_h ds oo j)), .val (.int (Int32.ofNat (oo + n))), .val (.int (Int32.ofNat (oo + j)))] [(.int (((own_h ds oo j) * (923521 : Int32)) + ((ds.getD (oo + j) 0) * (29791 : Int32))))]))
        refine Go.on (fun t k => XS.aloadN X3.here hx rfl (hb hby d6_39) rfl rfl k) ?_
        show Go p.tables e below s _ _ _ (T3.setTop (mkF m 40 #[.val (.ref a1), .val (.int (own_h ds oo j)), .val (.int (Int32.ofNat (oo + n))), .val (.int (Int32.ofNat (oo + j)))] [(.ref a1), (.int (((own_h ds oo j) * (923521 : Int32)) + ((ds.getD (oo + j) 0) * (29791 : Int32))))]))
        obtain ⟨T5, X5, e5, st5⟩ := getF X3 hx hZ hown (host := "") (Or.inl (hw _ (List.mem_of_getElem? (i := 23) rfl))) Via.refl e3 F_bytes_a1 (g := (mkF m 40 #[.val (.ref a1), .val (.int (own_h ds oo j)), .val (.int (Int32.ofNat (oo + n))), .val (.int (Int32.ofNat (oo + j)))] [(.ref a1), (.int (((own_h ds oo j) * (923521 : Int32)) + ((ds.getD (oo + j) 0) * (29791 : Int32))))])) rfl rfl (hb hby d6_40)
        refine Go.on st5 ?_
        show Go p.tables e below s _ _ _ (T5.setTop (mkF m 43 #[.val (.ref a1), .val (.int (own_h ds oo j)), .val (.int (Int32.ofNat (oo + n))), .val (.int (Int32.ofNat (oo + j)))] [(.ref a2), (.int (((own_h ds oo j) * (923521 : Int32)) + ((ds.getD (oo + j) 0) * (29791 : Int32))))]))
        refine Go.on (fun t k => XS.iloadN X5.here hx rfl (hb hby d6_43) rfl k) ?_
        show Go p.tables e below s _ _ _ (T5.setTop (mkF m 44 #[.val (.ref a1), .val (.int (own_h ds oo j)), .val (.int (Int32.ofNat (oo + n))), .val (.int (Int32.ofNat (oo + j)))] [(.int (Int32.ofNat (oo + j))), (.ref a2), (.int (((own_h ds oo j) * (923521 : Int32)) + ((ds.getD (oo + j) 0) * (29791 : Int32))))]))
        refine Go.on (fun t k => XS.iconst X5.here hx rfl (hb hby d6_44) k) ?_
        show Go p.tables e below s _ _ _ (T5.setTop (mkF m 45 #[.val (.ref a1), .val (.int (own_h ds oo j)), .val (.int (Int32.ofNat (oo + n))), .val (.int (Int32.ofNat (oo + j)))] [(.int (1 : Int32)), (.int (Int32.ofNat (oo + j))), (.ref a2), (.int (((own_h ds oo j) * (923521 : Int32)) + ((ds.getD (oo + j) 0) * (29791 : Int32))))]))
        refine Go.on (fun t k => XS.iadd X5.here hx rfl (hb hby d6_45) rfl k) ?_
        show Go p.tables e below s _ _ _ (T5.setTop (mkF m 46 #[.val (.ref a1), .val (.int (own_h ds oo j)), .val (.int (Int32.ofNat (oo + n))), .val (.int (Int32.ofNat (oo + j)))] [(.int ((Int32.ofNat (oo + j)) + (1 : Int32))), (.ref a2), (.int (((own_h ds oo j) * (923521 : Int32)) + ((ds.getD (oo + j) 0) * (29791 : Int32))))]))
        rw [show Int32.ofNat (oo + j) + (1 : Int32) = Int32.ofNat (oo + j + 1) from own_add (oo + j) 1]
        show Go p.tables e below s _ _ _ (T5.setTop (mkF m 46 #[.val (.ref a1), .val (.int (own_h ds oo j)), .val (.int (Int32.ofNat (oo + n))), .val (.int (Int32.ofNat (oo + j)))] [(.int (Int32.ofNat (oo + j + 1))), (.ref a2), (.int (((own_h ds oo j) * (923521 : Int32)) + ((ds.getD (oo + j) 0) * (29791 : Int32))))]))
        obtain ⟨cl6, Ar6, q6, S6, M6, H6, G6⟩ := id V_a2
        have hin6 : ¬ ((Int32.ofNat (oo + j + 1)) < 0 ∨ cl6.slots.size ≤ ((Int32.ofNat (oo + j + 1))).toNatClampNeg) := inb_of S6 (own_in (by omega))
        have hat6 : cl6.slots[((Int32.ofNat (oo + j + 1))).toNatClampNeg]? = some (.int (ds.getD (oo + j + 1) 0)) := H6.at hin6 (own_at ds (by omega))
        refine Go.on (fun t k => X5.baloadBytes hx (j := (Int32.ofNat (oo + j + 1))) (v := (.int (ds.getD (oo + j + 1) 0))) (by rw [e5]; exact Ar6.1) (State.isArrayOf_alike hZ.alike Ar6.2.1) Ar6.2.2 hin6 hat6 (g := (mkF m 46 #[.val (.ref a1), .val (.int (own_h ds oo j)), .val (.int (Int32.ofNat (oo + n))), .val (.int (Int32.ofNat (oo + j)))] [(.int (Int32.ofNat (oo + j + 1))), (.ref a2), (.int (((own_h ds oo j) * (923521 : Int32)) + ((ds.getD (oo + j) 0) * (29791 : Int32))))])) rfl rfl (hb hby d6_46) t k) ?_
        show Go p.tables e below s _ _ _ (T5.setTop (mkF m 47 #[.val (.ref a1), .val (.int (own_h ds oo j)), .val (.int (Int32.ofNat (oo + n))), .val (.int (Int32.ofNat (oo + j)))] [(.int (ds.getD (oo + j + 1) 0)), (.int (((own_h ds oo j) * (923521 : Int32)) + ((ds.getD (oo + j) 0) * (29791 : Int32))))]))
        refine Go.on (fun t k => XS.sipush X5.here hx rfl (hb hby d6_47) k) ?_
        show Go p.tables e below s _ _ _ (T5.setTop (mkF m 50 #[.val (.ref a1), .val (.int (own_h ds oo j)), .val (.int (Int32.ofNat (oo + n))), .val (.int (Int32.ofNat (oo + j)))] [(.int (961 : Int32)), (.int (ds.getD (oo + j + 1) 0)), (.int (((own_h ds oo j) * (923521 : Int32)) + ((ds.getD (oo + j) 0) * (29791 : Int32))))]))
        refine Go.on (fun t k => XS.imul X5.here hx rfl (hb hby d6_50) rfl k) ?_
        show Go p.tables e below s _ _ _ (T5.setTop (mkF m 51 #[.val (.ref a1), .val (.int (own_h ds oo j)), .val (.int (Int32.ofNat (oo + n))), .val (.int (Int32.ofNat (oo + j)))] [(.int ((ds.getD (oo + j + 1) 0) * (961 : Int32))), (.int (((own_h ds oo j) * (923521 : Int32)) + ((ds.getD (oo + j) 0) * (29791 : Int32))))]))
        refine Go.on (fun t k => XS.iadd X5.here hx rfl (hb hby d6_51) rfl k) ?_
        show Go p.tables e below s _ _ _ (T5.setTop (mkF m 52 #[.val (.ref a1), .val (.int (own_h ds oo j)), .val (.int (Int32.ofNat (oo + n))), .val (.int (Int32.ofNat (oo + j)))] [(.int ((((own_h ds oo j) * (923521 : Int32)) + ((ds.getD (oo + j) 0) * (29791 : Int32))) + ((ds.getD (oo + j + 1) 0) * (961 : Int32))))]))
        refine Go.on (fun t k => XS.aloadN X5.here hx rfl (hb hby d6_52) rfl rfl k) ?_
        show Go p.tables e below s _ _ _ (T5.setTop (mkF m 53 #[.val (.ref a1), .val (.int (own_h ds oo j)), .val (.int (Int32.ofNat (oo + n))), .val (.int (Int32.ofNat (oo + j)))] [(.ref a1), (.int ((((own_h ds oo j) * (923521 : Int32)) + ((ds.getD (oo + j) 0) * (29791 : Int32))) + ((ds.getD (oo + j + 1) 0) * (961 : Int32))))]))
        obtain ⟨T7, X7, e7, st7⟩ := getF X5 hx hZ hown (host := "") (Or.inl (hw _ (List.mem_of_getElem? (i := 23) rfl))) Via.refl e5 F_bytes_a1 (g := (mkF m 53 #[.val (.ref a1), .val (.int (own_h ds oo j)), .val (.int (Int32.ofNat (oo + n))), .val (.int (Int32.ofNat (oo + j)))] [(.ref a1), (.int ((((own_h ds oo j) * (923521 : Int32)) + ((ds.getD (oo + j) 0) * (29791 : Int32))) + ((ds.getD (oo + j + 1) 0) * (961 : Int32))))])) rfl rfl (hb hby d6_53)
        refine Go.on st7 ?_
        show Go p.tables e below s _ _ _ (T7.setTop (mkF m 56 #[.val (.ref a1), .val (.int (own_h ds oo j)), .val (.int (Int32.ofNat (oo + n))), .val (.int (Int32.ofNat (oo + j)))] [(.ref a2), (.int ((((own_h ds oo j) * (923521 : Int32)) + ((ds.getD (oo + j) 0) * (29791 : Int32))) + ((ds.getD (oo + j + 1) 0) * (961 : Int32))))]))
        refine Go.on (fun t k => XS.iloadN X7.here hx rfl (hb hby d6_56) rfl k) ?_
        show Go p.tables e below s _ _ _ (T7.setTop (mkF m 57 #[.val (.ref a1), .val (.int (own_h ds oo j)), .val (.int (Int32.ofNat (oo + n))), .val (.int (Int32.ofNat (oo + j)))] [(.int (Int32.ofNat (oo + j))), (.ref a2), (.int ((((own_h ds oo j) * (923521 : Int32)) + ((ds.getD (oo + j) 0) * (29791 : Int32))) + ((ds.getD (oo + j + 1) 0) * (961 : Int32))))]))
        refine Go.on (fun t k => XS.iconst X7.here hx rfl (hb hby d6_57) k) ?_
        show Go p.tables e below s _ _ _ (T7.setTop (mkF m 58 #[.val (.ref a1), .val (.int (own_h ds oo j)), .val (.int (Int32.ofNat (oo + n))), .val (.int (Int32.ofNat (oo + j)))] [(.int (2 : Int32)), (.int (Int32.ofNat (oo + j))), (.ref a2), (.int ((((own_h ds oo j) * (923521 : Int32)) + ((ds.getD (oo + j) 0) * (29791 : Int32))) + ((ds.getD (oo + j + 1) 0) * (961 : Int32))))]))
        refine Go.on (fun t k => XS.iadd X7.here hx rfl (hb hby d6_58) rfl k) ?_
        show Go p.tables e below s _ _ _ (T7.setTop (mkF m 59 #[.val (.ref a1), .val (.int (own_h ds oo j)), .val (.int (Int32.ofNat (oo + n))), .val (.int (Int32.ofNat (oo + j)))] [(.int ((Int32.ofNat (oo + j)) + (2 : Int32))), (.ref a2), (.int ((((own_h ds oo j) * (923521 : Int32)) + ((ds.getD (oo + j) 0) * (29791 : Int32))) + ((ds.getD (oo + j + 1) 0) * (961 : Int32))))]))
        rw [show Int32.ofNat (oo + j) + (2 : Int32) = Int32.ofNat (oo + j + 2) from own_add (oo + j) 2]
        show Go p.tables e below s _ _ _ (T7.setTop (mkF m 59 #[.val (.ref a1), .val (.int (own_h ds oo j)), .val (.int (Int32.ofNat (oo + n))), .val (.int (Int32.ofNat (oo + j)))] [(.int (Int32.ofNat (oo + j + 2))), (.ref a2), (.int ((((own_h ds oo j) * (923521 : Int32)) + ((ds.getD (oo + j) 0) * (29791 : Int32))) + ((ds.getD (oo + j + 1) 0) * (961 : Int32))))]))
        obtain ⟨cl8, Ar8, q8, S8, M8, H8, G8⟩ := id V_a2
        have hin8 : ¬ ((Int32.ofNat (oo + j + 2)) < 0 ∨ cl8.slots.size ≤ ((Int32.ofNat (oo + j + 2))).toNatClampNeg) := inb_of S8 (own_in (by omega))
        have hat8 : cl8.slots[((Int32.ofNat (oo + j + 2))).toNatClampNeg]? = some (.int (ds.getD (oo + j + 2) 0)) := H8.at hin8 (own_at ds (by omega))
        refine Go.on (fun t k => X7.baloadBytes hx (j := (Int32.ofNat (oo + j + 2))) (v := (.int (ds.getD (oo + j + 2) 0))) (by rw [e7]; exact Ar8.1) (State.isArrayOf_alike hZ.alike Ar8.2.1) Ar8.2.2 hin8 hat8 (g := (mkF m 59 #[.val (.ref a1), .val (.int (own_h ds oo j)), .val (.int (Int32.ofNat (oo + n))), .val (.int (Int32.ofNat (oo + j)))] [(.int (Int32.ofNat (oo + j + 2))), (.ref a2), (.int ((((own_h ds oo j) * (923521 : Int32)) + ((ds.getD (oo + j) 0) * (29791 : Int32))) + ((ds.getD (oo + j + 1) 0) * (961 : Int32))))])) rfl rfl (hb hby d6_59) t k) ?_
        show Go p.tables e below s _ _ _ (T7.setTop (mkF m 60 #[.val (.ref a1), .val (.int (own_h ds oo j)), .val (.int (Int32.ofNat (oo + n))), .val (.int (Int32.ofNat (oo + j)))] [(.int (ds.getD (oo + j + 2) 0)), (.int ((((own_h ds oo j) * (923521 : Int32)) + ((ds.getD (oo + j) 0) * (29791 : Int32))) + ((ds.getD (oo + j + 1) 0) * (961 : Int32))))]))
        refine Go.on (fun t k => XS.bipush X7.here hx rfl (hb hby d6_60) k) ?_
        show Go p.tables e below s _ _ _ (T7.setTop (mkF m 62 #[.val (.ref a1), .val (.int (own_h ds oo j)), .val (.int (Int32.ofNat (oo + n))), .val (.int (Int32.ofNat (oo + j)))] [(.int (31 : Int32)), (.int (ds.getD (oo + j + 2) 0)), (.int ((((own_h ds oo j) * (923521 : Int32)) + ((ds.getD (oo + j) 0) * (29791 : Int32))) + ((ds.getD (oo + j + 1) 0) * (961 : Int32))))]))
        refine Go.on (fun t k => XS.imul X7.here hx rfl (hb hby d6_62) rfl k) ?_
        show Go p.tables e below s _ _ _ (T7.setTop (mkF m 63 #[.val (.ref a1), .val (.int (own_h ds oo j)), .val (.int (Int32.ofNat (oo + n))), .val (.int (Int32.ofNat (oo + j)))] [(.int ((ds.getD (oo + j + 2) 0) * (31 : Int32))), (.int ((((own_h ds oo j) * (923521 : Int32)) + ((ds.getD (oo + j) 0) * (29791 : Int32))) + ((ds.getD (oo + j + 1) 0) * (961 : Int32))))]))
        refine Go.on (fun t k => XS.iadd X7.here hx rfl (hb hby d6_63) rfl k) ?_
        show Go p.tables e below s _ _ _ (T7.setTop (mkF m 64 #[.val (.ref a1), .val (.int (own_h ds oo j)), .val (.int (Int32.ofNat (oo + n))), .val (.int (Int32.ofNat (oo + j)))] [(.int (((((own_h ds oo j) * (923521 : Int32)) + ((ds.getD (oo + j) 0) * (29791 : Int32))) + ((ds.getD (oo + j + 1) 0) * (961 : Int32))) + ((ds.getD (oo + j + 2) 0) * (31 : Int32))))]))
        refine Go.on (fun t k => XS.aloadN X7.here hx rfl (hb hby d6_64) rfl rfl k) ?_
        show Go p.tables e below s _ _ _ (T7.setTop (mkF m 65 #[.val (.ref a1), .val (.int (own_h ds oo j)), .val (.int (Int32.ofNat (oo + n))), .val (.int (Int32.ofNat (oo + j)))] [(.ref a1), (.int (((((own_h ds oo j) * (923521 : Int32)) + ((ds.getD (oo + j) 0) * (29791 : Int32))) + ((ds.getD (oo + j + 1) 0) * (961 : Int32))) + ((ds.getD (oo + j + 2) 0) * (31 : Int32))))]))
        obtain ⟨T9, X9, e9, st9⟩ := getF X7 hx hZ hown (host := "") (Or.inl (hw _ (List.mem_of_getElem? (i := 23) rfl))) Via.refl e7 F_bytes_a1 (g := (mkF m 65 #[.val (.ref a1), .val (.int (own_h ds oo j)), .val (.int (Int32.ofNat (oo + n))), .val (.int (Int32.ofNat (oo + j)))] [(.ref a1), (.int (((((own_h ds oo j) * (923521 : Int32)) + ((ds.getD (oo + j) 0) * (29791 : Int32))) + ((ds.getD (oo + j + 1) 0) * (961 : Int32))) + ((ds.getD (oo + j + 2) 0) * (31 : Int32))))])) rfl rfl (hb hby d6_65)
        refine Go.on st9 ?_
        show Go p.tables e below s _ _ _ (T9.setTop (mkF m 68 #[.val (.ref a1), .val (.int (own_h ds oo j)), .val (.int (Int32.ofNat (oo + n))), .val (.int (Int32.ofNat (oo + j)))] [(.ref a2), (.int (((((own_h ds oo j) * (923521 : Int32)) + ((ds.getD (oo + j) 0) * (29791 : Int32))) + ((ds.getD (oo + j + 1) 0) * (961 : Int32))) + ((ds.getD (oo + j + 2) 0) * (31 : Int32))))]))
        refine Go.on (fun t k => XS.iloadN X9.here hx rfl (hb hby d6_68) rfl k) ?_
        show Go p.tables e below s _ _ _ (T9.setTop (mkF m 69 #[.val (.ref a1), .val (.int (own_h ds oo j)), .val (.int (Int32.ofNat (oo + n))), .val (.int (Int32.ofNat (oo + j)))] [(.int (Int32.ofNat (oo + j))), (.ref a2), (.int (((((own_h ds oo j) * (923521 : Int32)) + ((ds.getD (oo + j) 0) * (29791 : Int32))) + ((ds.getD (oo + j + 1) 0) * (961 : Int32))) + ((ds.getD (oo + j + 2) 0) * (31 : Int32))))]))
        refine Go.on (fun t k => XS.iconst X9.here hx rfl (hb hby d6_69) k) ?_
        show Go p.tables e below s _ _ _ (T9.setTop (mkF m 70 #[.val (.ref a1), .val (.int (own_h ds oo j)), .val (.int (Int32.ofNat (oo + n))), .val (.int (Int32.ofNat (oo + j)))] [(.int (3 : Int32)), (.int (Int32.ofNat (oo + j))), (.ref a2), (.int (((((own_h ds oo j) * (923521 : Int32)) + ((ds.getD (oo + j) 0) * (29791 : Int32))) + ((ds.getD (oo + j + 1) 0) * (961 : Int32))) + ((ds.getD (oo + j + 2) 0) * (31 : Int32))))]))
        refine Go.on (fun t k => XS.iadd X9.here hx rfl (hb hby d6_70) rfl k) ?_
        show Go p.tables e below s _ _ _ (T9.setTop (mkF m 71 #[.val (.ref a1), .val (.int (own_h ds oo j)), .val (.int (Int32.ofNat (oo + n))), .val (.int (Int32.ofNat (oo + j)))] [(.int ((Int32.ofNat (oo + j)) + (3 : Int32))), (.ref a2), (.int (((((own_h ds oo j) * (923521 : Int32)) + ((ds.getD (oo + j) 0) * (29791 : Int32))) + ((ds.getD (oo + j + 1) 0) * (961 : Int32))) + ((ds.getD (oo + j + 2) 0) * (31 : Int32))))]))
        rw [show Int32.ofNat (oo + j) + (3 : Int32) = Int32.ofNat (oo + j + 3) from own_add (oo + j) 3]
        show Go p.tables e below s _ _ _ (T9.setTop (mkF m 71 #[.val (.ref a1), .val (.int (own_h ds oo j)), .val (.int (Int32.ofNat (oo + n))), .val (.int (Int32.ofNat (oo + j)))] [(.int (Int32.ofNat (oo + j + 3))), (.ref a2), (.int (((((own_h ds oo j) * (923521 : Int32)) + ((ds.getD (oo + j) 0) * (29791 : Int32))) + ((ds.getD (oo + j + 1) 0) * (961 : Int32))) + ((ds.getD (oo + j + 2) 0) * (31 : Int32))))]))
        obtain ⟨cl10, Ar10, q10, S10, M10, H10, G10⟩ := id V_a2
        have hin10 : ¬ ((Int32.ofNat (oo + j + 3)) < 0 ∨ cl10.slots.size ≤ ((Int32.ofNat (oo + j + 3))).toNatClampNeg) := inb_of S10 (own_in (by omega))
        have hat10 : cl10.slots[((Int32.ofNat (oo + j + 3))).toNatClampNeg]? = some (.int (ds.getD (oo + j + 3) 0)) := H10.at hin10 (own_at ds (by omega))
        refine Go.on (fun t k => X9.baloadBytes hx (j := (Int32.ofNat (oo + j + 3))) (v := (.int (ds.getD (oo + j + 3) 0))) (by rw [e9]; exact Ar10.1) (State.isArrayOf_alike hZ.alike Ar10.2.1) Ar10.2.2 hin10 hat10 (g := (mkF m 71 #[.val (.ref a1), .val (.int (own_h ds oo j)), .val (.int (Int32.ofNat (oo + n))), .val (.int (Int32.ofNat (oo + j)))] [(.int (Int32.ofNat (oo + j + 3))), (.ref a2), (.int (((((own_h ds oo j) * (923521 : Int32)) + ((ds.getD (oo + j) 0) * (29791 : Int32))) + ((ds.getD (oo + j + 1) 0) * (961 : Int32))) + ((ds.getD (oo + j + 2) 0) * (31 : Int32))))])) rfl rfl (hb hby d6_71) t k) ?_
        show Go p.tables e below s _ _ _ (T9.setTop (mkF m 72 #[.val (.ref a1), .val (.int (own_h ds oo j)), .val (.int (Int32.ofNat (oo + n))), .val (.int (Int32.ofNat (oo + j)))] [(.int (ds.getD (oo + j + 3) 0)), (.int (((((own_h ds oo j) * (923521 : Int32)) + ((ds.getD (oo + j) 0) * (29791 : Int32))) + ((ds.getD (oo + j + 1) 0) * (961 : Int32))) + ((ds.getD (oo + j + 2) 0) * (31 : Int32))))]))
        refine Go.on (fun t k => XS.iadd X9.here hx rfl (hb hby d6_72) rfl k) ?_
        show Go p.tables e below s _ _ _ (T9.setTop (mkF m 73 #[.val (.ref a1), .val (.int (own_h ds oo j)), .val (.int (Int32.ofNat (oo + n))), .val (.int (Int32.ofNat (oo + j)))] [(.int ((((((own_h ds oo j) * (923521 : Int32)) + ((ds.getD (oo + j) 0) * (29791 : Int32))) + ((ds.getD (oo + j + 1) 0) * (961 : Int32))) + ((ds.getD (oo + j + 2) 0) * (31 : Int32))) + (ds.getD (oo + j + 3) 0)))]))
        rw [own_turn]
        show Go p.tables e below s _ _ _ (T9.setTop (mkF m 73 #[.val (.ref a1), .val (.int (own_h ds oo j)), .val (.int (Int32.ofNat (oo + n))), .val (.int (Int32.ofNat (oo + j)))] [(.int (own_h ds oo (j + 4)))]))
        refine Go.on (fun t k => XS.istoreN X9.here hx rfl (hb hby d6_73) rfl (l' := #[.val (.ref a1), .val (.int (own_h ds oo (j + 4))), .val (.int (Int32.ofNat (oo + n))), .val (.int (Int32.ofNat (oo + j)))]) rfl k) ?_
        show Go p.tables e below s _ _ _ (T9.setTop (mkF m 74 #[.val (.ref a1), .val (.int (own_h ds oo (j + 4))), .val (.int (Int32.ofNat (oo + n))), .val (.int (Int32.ofNat (oo + j)))] []))
        refine Go.on (fun t k => XS.iinc X9.here hx rfl (hb hby d6_74) rfl (l' := #[.val (.ref a1), .val (.int (own_h ds oo (j + 4))), .val (.int (Int32.ofNat (oo + n))), .val (.int ((Int32.ofNat (oo + j)) + (4 : Int32)))]) rfl k) ?_
        show Go p.tables e below s _ _ _ (T9.setTop (mkF m 77 #[.val (.ref a1), .val (.int (own_h ds oo (j + 4))), .val (.int (Int32.ofNat (oo + n))), .val (.int ((Int32.ofNat (oo + j)) + (4 : Int32)))] []))
        rw [show Int32.ofNat (oo + j) + (4 : Int32) = Int32.ofNat (oo + (j + 4)) from own_add (oo + j) 4]
        show Go p.tables e below s _ _ _ (T9.setTop (mkF m 77 #[.val (.ref a1), .val (.int (own_h ds oo (j + 4))), .val (.int (Int32.ofNat (oo + n))), .val (.int (Int32.ofNat (oo + (j + 4))))] []))
        refine Go.on (fun t k => XS.goto X9.here hx rfl (pc0 := 77) (pc' := 17) rfl (hb hby d6_77) (by decide) (by decide) k) ?_
        show Go p.tables e below s _ _ _ (T9.setTop (mkF m 17 #[.val (.ref a1), .val (.int (own_h ds oo (j + 4))), .val (.int (Int32.ofNat (oo + n))), .val (.int (Int32.ofNat (oo + (j + 4))))] []))
        exact ih (j + 4) T9 X9 e9 (by omega) (by omega)
  refine Go.on (fun t k => XS.iconst X0.here hx rfl (hb hby d6_0) k) ?_
  show Go p.tables e below s _ _ _ (s₁.setTop (mkF m 1 #[.val (.ref a1), .unset, .unset, .unset] [(.int (0 : Int32))]))
  refine Go.on (fun t k => XS.istoreN X0.here hx rfl (hb hby d6_1) rfl (l' := #[.val (.ref a1), .val (.int (0 : Int32)), .unset, .unset]) rfl k) ?_
  show Go p.tables e below s _ _ _ (s₁.setTop (mkF m 2 #[.val (.ref a1), .val (.int (0 : Int32)), .unset, .unset] []))
  refine Go.on (fun t k => XS.aloadN X0.here hx rfl (hb hby d6_2) rfl rfl k) ?_
  show Go p.tables e below s _ _ _ (s₁.setTop (mkF m 3 #[.val (.ref a1), .val (.int (0 : Int32)), .unset, .unset] [(.ref a1)]))
  obtain ⟨T11, X11, e11, st11⟩ := getF X0 hx hZ hown (host := "") (Or.inl (hw _ (List.mem_of_getElem? (i := 25) rfl))) Via.refl e0 F_offset_a1 (g := (mkF m 3 #[.val (.ref a1), .val (.int (0 : Int32)), .unset, .unset] [(.ref a1)])) rfl rfl (hb hby d6_3)
  refine Go.on st11 ?_
  show Go p.tables e below s _ _ _ (T11.setTop (mkF m 6 #[.val (.ref a1), .val (.int (0 : Int32)), .unset, .unset] [(.int (Int32.ofNat oo))]))
  refine Go.on (fun t k => XS.aloadN X11.here hx rfl (hb hby d6_6) rfl rfl k) ?_
  show Go p.tables e below s _ _ _ (T11.setTop (mkF m 7 #[.val (.ref a1), .val (.int (0 : Int32)), .unset, .unset] [(.ref a1), (.int (Int32.ofNat oo))]))
  obtain ⟨T12, X12, e12, st12⟩ := getF X11 hx hZ hown (host := "") (Or.inl (hw _ (List.mem_of_getElem? (i := 27) rfl))) Via.refl e11 F_length_a1 (g := (mkF m 7 #[.val (.ref a1), .val (.int (0 : Int32)), .unset, .unset] [(.ref a1), (.int (Int32.ofNat oo))])) rfl rfl (hb hby d6_7)
  refine Go.on st12 ?_
  show Go p.tables e below s _ _ _ (T12.setTop (mkF m 10 #[.val (.ref a1), .val (.int (0 : Int32)), .unset, .unset] [(.int (Int32.ofNat n)), (.int (Int32.ofNat oo))]))
  refine Go.on (fun t k => XS.iadd X12.here hx rfl (hb hby d6_10) rfl k) ?_
  show Go p.tables e below s _ _ _ (T12.setTop (mkF m 11 #[.val (.ref a1), .val (.int (0 : Int32)), .unset, .unset] [(.int ((Int32.ofNat oo) + (Int32.ofNat n)))]))
  rw [own_add]
  show Go p.tables e below s _ _ _ (T12.setTop (mkF m 11 #[.val (.ref a1), .val (.int (0 : Int32)), .unset, .unset] [(.int (Int32.ofNat (oo + n)))]))
  refine Go.on (fun t k => XS.istoreN X12.here hx rfl (hb hby d6_11) rfl (l' := #[.val (.ref a1), .val (.int (0 : Int32)), .val (.int (Int32.ofNat (oo + n))), .unset]) rfl k) ?_
  show Go p.tables e below s _ _ _ (T12.setTop (mkF m 12 #[.val (.ref a1), .val (.int (0 : Int32)), .val (.int (Int32.ofNat (oo + n))), .unset] []))
  refine Go.on (fun t k => XS.aloadN X12.here hx rfl (hb hby d6_12) rfl rfl k) ?_
  show Go p.tables e below s _ _ _ (T12.setTop (mkF m 13 #[.val (.ref a1), .val (.int (0 : Int32)), .val (.int (Int32.ofNat (oo + n))), .unset] [(.ref a1)]))
  obtain ⟨T13, X13, e13, st13⟩ := getF X12 hx hZ hown (host := "") (Or.inl (hw _ (List.mem_of_getElem? (i := 25) rfl))) Via.refl e12 F_offset_a1 (g := (mkF m 13 #[.val (.ref a1), .val (.int (0 : Int32)), .val (.int (Int32.ofNat (oo + n))), .unset] [(.ref a1)])) rfl rfl (hb hby d6_13)
  refine Go.on st13 ?_
  show Go p.tables e below s _ _ _ (T13.setTop (mkF m 16 #[.val (.ref a1), .val (.int (0 : Int32)), .val (.int (Int32.ofNat (oo + n))), .unset] [(.int (Int32.ofNat oo))]))
  refine Go.on (fun t k => XS.istoreN X13.here hx rfl (hb hby d6_16) rfl (l' := #[.val (.ref a1), .val (.int (0 : Int32)), .val (.int (Int32.ofNat (oo + n))), .val (.int (Int32.ofNat oo))]) rfl k) ?_
  show Go p.tables e below s _ _ _ (T13.setTop (mkF m 17 #[.val (.ref a1), .val (.int (0 : Int32)), .val (.int (Int32.ofNat (oo + n))), .val (.int (Int32.ofNat oo))] []))
  exact loop1 (n + 1) 0 T13 X13 e13 (by omega) (by omega)
theorem ef_0 (m : MethodId) (x0 : Int64) (x1 : Int64) (x2 : Int32) : entryFrame m #[(.long x0), (.long x1), (.int x2)] maxLocals = mkF m 0 #[.val (.long x0), .second, .val (.long x1), .second, .val (.int x2), .unset, .unset, .unset, .unset, .unset] [] := by first | (simp [entryFrame, mkF, argsToLocals, Value.category, maxLocals]; done) | rfl
def Q0 (Z : State) (q1 : Int64) (q2 : Int64) (p3 : Int32) (h0 : Heap) (n0 : Nat) (v : Option Value) (h : Heap) (L : List Loc) : Prop := v = some (.int (1 : Int32)) ∧ Fr n0 L
set_option maxRecDepth 65536 in
set_option maxHeartbeats 40000000 in
theorem rm0 (l : Launch) (Z : State) (a0 : Array Value) (hw : ∀ d ∈ tables_1, d.before a0 Z = true) (ws : List Jvm.Cond) (q1 : Int64) (q2 : Int64) (p3 : Int32) (h0 : Heap) (n0 : Nat) (Z0 : n0 ≤ h0.size)  :
    MetFree l x (head1 (Jvm.Cond.code x code maxLocals ret :: ws) room_1) (fun a U => a = #[(.long q1), (.long q2), (.int p3)] ∧ Z.Warmed39 U.vm ∧ U.heap = h0) (fun _ _ _ _ _ => True) (fun _ U o U' => ∃ v L, o = .returned v ∧ Q0 Z q1 q2 p3 h0 n0 v U'.heap L ∧ FrameEnd U o U' L room_1.cells room_1.slots) := by
  refine MetFree.of_bodySF (plainFor_of_name pn_com_example_tidewell_tidewell_engine_FieldTextTextHashPinLaw) hisR ?_
  intro p e s m args below meth c s₁ Bd hml0 hP hK
  obtain ⟨rfl, hZ, hh⟩ := hP
  have hx := Bd.exec
  have hby := Bd.bytes
  have hlk : meth.locks = false := BodyLoose.notSynchronized Bd
  have hml : c.maxLocals = 10 := hml0
  have hown : s.vm.findClass "com/example/tidewell/tidewell/engine/FieldTextTextHashPinLaw" = some m.cls := findClass_of_methodNamed Bd.named
  have hnm := (name_of_methodNamed Bd.named Bd.method).1
  have X0 : Stand p l e room_1 s m #[(.long q1), (.long q2), (.int p3)] below meth c s₁ [] 0 0 := Stand.of_body Bd
  have e0 : s₁.heap = h0 := by rw [← hh, Bd.state]; rfl
  have N0 := Fr.nil n0
  show Go p.tables e below s (Q0 Z q1 q2 p3 h0 n0) room_1.cells room_1.slots (s₁.setTop (entryFrame m #[(.long q1), (.long q2), (.int p3)] maxLocals))
  refine Go.on (fun t k => castTop (ef_0 m q1 q2 p3) k) ?_
  show Go p.tables e below s _ _ _ (s₁.setTop (mkF m 0 #[.val (.long q1), .second, .val (.long q2), .second, .val (.int p3), .unset, .unset, .unset, .unset, .unset] []))
  refine Go.on (fun t k => XS.bipush X0.here hx rfl (hb hby at_0) k) ?_
  show Go p.tables e below s _ _ _ (s₁.setTop (mkF m 2 #[.val (.long q1), .second, .val (.long q2), .second, .val (.int p3), .unset, .unset, .unset, .unset, .unset] [(.int (16 : Int32))]))
  obtain ⟨T1, h1, k1, X1, e1, E1, A1, st1⟩ := newP X0 hx hZ (hw _ (List.mem_of_getElem? (i := 0) rfl)) e0 (g := (mkF m 2 #[.val (.long q1), .second, .val (.long q2), .second, .val (.int p3), .unset, .unset, .unset, .unset, .unset] [(.int (16 : Int32))])) rfl (hb hby at_2) rfl (by decide) (cap := 16) (by decide) (by decide) (by decide) (by decide)
  obtain ⟨b1, g1⟩ : ∃ z, z = h0.size := ⟨_, rfl⟩
  rw [← g1] at A1 st1
  have ge2 : n0 ≤ b1 := Nat.le_trans Z0 (Nat.le_of_eq g1.symm)
  have Zp4 := Nat.le_trans Z0 E1.1
  have Vb1_5 : Arv Z h1 b1 k1 .byte (16 : Int32) [(.int (0 : Int32)), (.int (0 : Int32)), (.int (0 : Int32)), (.int (0 : Int32)), (.int (0 : Int32)), (.int (0 : Int32)), (.int (0 : Int32)), (.int (0 : Int32)), (.int (0 : Int32)), (.int (0 : Int32)), (.int (0 : Int32)), (.int (0 : Int32)), (.int (0 : Int32)), (.int (0 : Int32)), (.int (0 : Int32)), (.int (0 : Int32))] (.int (0 : Int32)) := (Arv.new A1 (by decide)).pad (pad_rep [] (.int (0 : Int32)) 16)
  refine Go.on st1 ?_
  show Go p.tables e below s _ _ _ (T1.setTop (mkF m 4 #[.val (.long q1), .second, .val (.long q2), .second, .val (.int p3), .unset, .unset, .unset, .unset, .unset] [(.ref b1)]))
  refine Go.on (fun t k => XS.astore X1.here hx rfl (hb hby at_4) rfl rfl (l' := #[.val (.long q1), .second, .val (.long q2), .second, .val (.int p3), .val (.ref b1), .unset, .unset, .unset, .unset]) rfl k) ?_
  show Go p.tables e below s _ _ _ (T1.setTop (mkF m 6 #[.val (.long q1), .second, .val (.long q2), .second, .val (.int p3), .val (.ref b1), .unset, .unset, .unset, .unset] []))
  refine Go.on (fun t k => XS.aload X1.here hx rfl (hb hby at_6) rfl rfl k) ?_
  show Go p.tables e below s _ _ _ (T1.setTop (mkF m 8 #[.val (.long q1), .second, .val (.long q2), .second, .val (.int p3), .val (.ref b1), .unset, .unset, .unset, .unset] [(.ref b1)]))
  refine Go.on (fun t k => XS.iconst X1.here hx rfl (hb hby at_8) k) ?_
  show Go p.tables e below s _ _ _ (T1.setTop (mkF m 9 #[.val (.long q1), .second, .val (.long q2), .second, .val (.int p3), .val (.ref b1), .unset, .unset, .unset, .unset] [(.int (0 : Int32)), (.ref b1)]))
  refine Go.on (fun t k => XS.lloadN X1.here hx rfl (hb hby at_9) rfl k) ?_
  show Go p.tables e below s _ _ _ (T1.setTop (mkF m 10 #[.val (.long q1), .second, .val (.long q2), .second, .val (.int p3), .val (.ref b1), .unset, .unset, .unset, .unset] [(.long q1), (.int (0 : Int32)), (.ref b1)]))
  refine Go.on (fun t k => XS.iconst X1.here hx rfl (hb hby at_10) k) ?_
  show Go p.tables e below s _ _ _ (T1.setTop (mkF m 11 #[.val (.long q1), .second, .val (.long q2), .second, .val (.int p3), .val (.ref b1), .unset, .unset, .unset, .unset] [(.int (0 : Int32)), (.long q1), (.int (0 : Int32)), (.ref b1)]))
  obtain ⟨_, _, ⟨T6, L6, k6, n6⟩, -, X6, ⟨Lc6, hQ6, l6, y6, z6⟩, st6⟩ := Jvm.LawKit.callS X1 hx (y := (⟨"com/example/tidewell/tidewell/engine/FieldTextTextHashPinLaw", "b", "(JI)B"⟩ : MethodName)) hown (mvT hZ (hw _ (List.mem_of_getElem? (i := 1) rfl))) (mvT hZ (hw _ (List.mem_of_getElem? (i := 2) rfl))) (mvT hZ (hw _ (List.mem_of_getElem? (i := 3) rfl))) (mvT hZ (hw _ (List.mem_of_getElem? (i := 4) rfl))) (by decide) (backOf (W := 2) (rm1 l Z a0 hw [] q1 (0 : Int32) h1 n0 Zp4 ) hZ (hw _ (List.mem_of_getElem? (i := 4) rfl)) (hw _ (List.mem_of_getElem? (i := 3) rfl)) (by decide) (by decide)) (g := (mkF m 11 #[.val (.long q1), .second, .val (.long q2), .second, .val (.int p3), .val (.ref b1), .unset, .unset, .unset, .unset] [(.int (0 : Int32)), (.long q1), (.int (0 : Int32)), (.ref b1)])) rfl (by rw [hml]; rfl) (argsL := [(.long q1), (.int (0 : Int32))]) (rest := [(.int (0 : Int32)), (.ref b1)]) (lenOf pd__40_JI_41_B rfl) rfl (by show 2 * 0 + _ ≤ _; exact Nat.le_of_eq rfl) (hb hby at_11) (fun _ _ => ⟨rfl, e1, (by decide : (0 + 1) + 0 ≤ _), (by decide : (0 + 16) + 0 ≤ _)⟩)
  dsimp only [Pt.U, Pt.locs, Pt.cells, Pt.slots] at X6 l6 y6 z6 st6 hQ6
  rw [l6, y6, z6] at X6
  obtain ⟨r6, rfl, Nq6, e6, P6_0, P6_1⟩ := hQ6
  have Np7 := Fr.app N0 Nq6
  refine Go.on st6 ?_
  show Go p.tables e below s _ _ _ (T6.setTop (mkF m 14 #[.val (.long q1), .second, .val (.long q2), .second, .val (.int p3), .val (.ref b1), .unset, .unset, .unset, .unset] [(.int r6), (.int (0 : Int32)), (.ref b1)]))
  obtain ⟨cl8, Ar8, q8, S8, M8, H8, G8⟩ := id Vb1_5
  have hin8 : ¬ ((0 : Int32) < 0 ∨ cl8.slots.size ≤ ((0 : Int32)).toNatClampNeg) := inb_of S8 ⟨by decide, by decide⟩
  obtain ⟨T8, h8, X8, e8, W8, st8⟩ := stB X6 hx hZ e6 Ar8 (j := (0 : Int32)) hin8 (g := (mkF m 14 #[.val (.long q1), .second, .val (.long q2), .second, .val (.int p3), .val (.ref b1), .unset, .unset, .unset, .unset] [(.int r6), (.int (0 : Int32)), (.ref b1)])) rfl rfl (hb hby at_14)
  rw [P6_0] at W8
  have Vb1_9 : Arv Z h8 b1 k1 .byte (16 : Int32) [(.int r6), (.int (0 : Int32)), (.int (0 : Int32)), (.int (0 : Int32)), (.int (0 : Int32)), (.int (0 : Int32)), (.int (0 : Int32)), (.int (0 : Int32)), (.int (0 : Int32)), (.int (0 : Int32)), (.int (0 : Int32)), (.int (0 : Int32)), (.int (0 : Int32)), (.int (0 : Int32)), (.int (0 : Int32)), (.int (0 : Int32))] (.int (0 : Int32)) := Arv.set Ar8 q8 S8 M8 H8 G8 P6_1 W8 0 rfl (Nat.le_of_ble_eq_true rfl)
  have Zp10 := Nat.le_trans Zp4 (Keep.of_wr W8).1
  have Np11 := Fr.snoc X8 Np7 ge2
  refine Go.on st8 ?_
  show Go p.tables e below s _ _ _ (T8.setTop (mkF m 15 #[.val (.long q1), .second, .val (.long q2), .second, .val (.int p3), .val (.ref b1), .unset, .unset, .unset, .unset] []))
  refine Go.on (fun t k => XS.aload X8.here hx rfl (hb hby at_15) rfl rfl k) ?_
  show Go p.tables e below s _ _ _ (T8.setTop (mkF m 17 #[.val (.long q1), .second, .val (.long q2), .second, .val (.int p3), .val (.ref b1), .unset, .unset, .unset, .unset] [(.ref b1)]))
  refine Go.on (fun t k => XS.iconst X8.here hx rfl (hb hby at_17) k) ?_
  show Go p.tables e below s _ _ _ (T8.setTop (mkF m 18 #[.val (.long q1), .second, .val (.long q2), .second, .val (.int p3), .val (.ref b1), .unset, .unset, .unset, .unset] [(.int (1 : Int32)), (.ref b1)]))
  refine Go.on (fun t k => XS.lloadN X8.here hx rfl (hb hby at_18) rfl k) ?_
  show Go p.tables e below s _ _ _ (T8.setTop (mkF m 19 #[.val (.long q1), .second, .val (.long q2), .second, .val (.int p3), .val (.ref b1), .unset, .unset, .unset, .unset] [(.long q1), (.int (1 : Int32)), (.ref b1)]))
  refine Go.on (fun t k => XS.iconst X8.here hx rfl (hb hby at_19) k) ?_
  show Go p.tables e below s _ _ _ (T8.setTop (mkF m 20 #[.val (.long q1), .second, .val (.long q2), .second, .val (.int p3), .val (.ref b1), .unset, .unset, .unset, .unset] [(.int (1 : Int32)), (.long q1), (.int (1 : Int32)), (.ref b1)]))
  obtain ⟨_, _, ⟨T12, L12, k12, n12⟩, -, X12, ⟨Lc12, hQ12, l12, y12, z12⟩, st12⟩ := Jvm.LawKit.callS X8 hx (y := (⟨"com/example/tidewell/tidewell/engine/FieldTextTextHashPinLaw", "b", "(JI)B"⟩ : MethodName)) hown (mvT hZ (hw _ (List.mem_of_getElem? (i := 1) rfl))) (mvT hZ (hw _ (List.mem_of_getElem? (i := 2) rfl))) (mvT hZ (hw _ (List.mem_of_getElem? (i := 3) rfl))) (mvT hZ (hw _ (List.mem_of_getElem? (i := 4) rfl))) (by decide) (backOf (W := 2) (rm1 l Z a0 hw [] q1 (1 : Int32) h8 n0 Zp10 ) hZ (hw _ (List.mem_of_getElem? (i := 4) rfl)) (hw _ (List.mem_of_getElem? (i := 3) rfl)) (by decide) (by decide)) (g := (mkF m 20 #[.val (.long q1), .second, .val (.long q2), .second, .val (.int p3), .val (.ref b1), .unset, .unset, .unset, .unset] [(.int (1 : Int32)), (.long q1), (.int (1 : Int32)), (.ref b1)])) rfl (by rw [hml]; rfl) (argsL := [(.long q1), (.int (1 : Int32))]) (rest := [(.int (1 : Int32)), (.ref b1)]) (lenOf pd__40_JI_41_B rfl) rfl (by show 2 * 0 + _ ≤ _; exact Nat.le_of_eq rfl) (hb hby at_20) (fun _ _ => ⟨rfl, e8, (by decide : ((0 + 1) + 0) + 0 ≤ _), (by decide : ((0 + 16) + 0) + 0 ≤ _)⟩)
  dsimp only [Pt.U, Pt.locs, Pt.cells, Pt.slots] at X12 l12 y12 z12 st12 hQ12
  rw [l12, y12, z12] at X12
  obtain ⟨r12, rfl, Nq12, e12, P12_0, P12_1⟩ := hQ12
  have Np13 := Fr.app Np11 Nq12
  refine Go.on st12 ?_
  show Go p.tables e below s _ _ _ (T12.setTop (mkF m 23 #[.val (.long q1), .second, .val (.long q2), .second, .val (.int p3), .val (.ref b1), .unset, .unset, .unset, .unset] [(.int r12), (.int (1 : Int32)), (.ref b1)]))
  obtain ⟨cl14, Ar14, q14, S14, M14, H14, G14⟩ := id Vb1_9
  have hin14 : ¬ ((1 : Int32) < 0 ∨ cl14.slots.size ≤ ((1 : Int32)).toNatClampNeg) := inb_of S14 ⟨by decide, by decide⟩
  obtain ⟨T14, h14, X14, e14, W14, st14⟩ := stB X12 hx hZ e12 Ar14 (j := (1 : Int32)) hin14 (g := (mkF m 23 #[.val (.long q1), .second, .val (.long q2), .second, .val (.int p3), .val (.ref b1), .unset, .unset, .unset, .unset] [(.int r12), (.int (1 : Int32)), (.ref b1)])) rfl rfl (hb hby at_23)
  rw [P12_0] at W14
  have Vb1_15 : Arv Z h14 b1 k1 .byte (16 : Int32) [(.int r6), (.int r12), (.int (0 : Int32)), (.int (0 : Int32)), (.int (0 : Int32)), (.int (0 : Int32)), (.int (0 : Int32)), (.int (0 : Int32)), (.int (0 : Int32)), (.int (0 : Int32)), (.int (0 : Int32)), (.int (0 : Int32)), (.int (0 : Int32)), (.int (0 : Int32)), (.int (0 : Int32)), (.int (0 : Int32))] (.int (0 : Int32)) := Arv.set Ar14 q14 S14 M14 H14 G14 P12_1 W14 1 rfl (Nat.le_of_ble_eq_true rfl)
  have Zp16 := Nat.le_trans Zp10 (Keep.of_wr W14).1
  have Np17 := Fr.snoc X14 Np13 ge2
  refine Go.on st14 ?_
  show Go p.tables e below s _ _ _ (T14.setTop (mkF m 24 #[.val (.long q1), .second, .val (.long q2), .second, .val (.int p3), .val (.ref b1), .unset, .unset, .unset, .unset] []))
  refine Go.on (fun t k => XS.aload X14.here hx rfl (hb hby at_24) rfl rfl k) ?_
  show Go p.tables e below s _ _ _ (T14.setTop (mkF m 26 #[.val (.long q1), .second, .val (.long q2), .second, .val (.int p3), .val (.ref b1), .unset, .unset, .unset, .unset] [(.ref b1)]))
  refine Go.on (fun t k => XS.iconst X14.here hx rfl (hb hby at_26) k) ?_
  show Go p.tables e below s _ _ _ (T14.setTop (mkF m 27 #[.val (.long q1), .second, .val (.long q2), .second, .val (.int p3), .val (.ref b1), .unset, .unset, .unset, .unset] [(.int (2 : Int32)), (.ref b1)]))
  refine Go.on (fun t k => XS.lloadN X14.here hx rfl (hb hby at_27) rfl k) ?_
  show Go p.tables e below s _ _ _ (T14.setTop (mkF m 28 #[.val (.long q1), .second, .val (.long q2), .second, .val (.int p3), .val (.ref b1), .unset, .unset, .unset, .unset] [(.long q1), (.int (2 : Int32)), (.ref b1)]))
  refine Go.on (fun t k => XS.iconst X14.here hx rfl (hb hby at_28) k) ?_
  show Go p.tables e below s _ _ _ (T14.setTop (mkF m 29 #[.val (.long q1), .second, .val (.long q2), .second, .val (.int p3), .val (.ref b1), .unset, .unset, .unset, .unset] [(.int (2 : Int32)), (.long q1), (.int (2 : Int32)), (.ref b1)]))
  obtain ⟨_, _, ⟨T18, L18, k18, n18⟩, -, X18, ⟨Lc18, hQ18, l18, y18, z18⟩, st18⟩ := Jvm.LawKit.callS X14 hx (y := (⟨"com/example/tidewell/tidewell/engine/FieldTextTextHashPinLaw", "b", "(JI)B"⟩ : MethodName)) hown (mvT hZ (hw _ (List.mem_of_getElem? (i := 1) rfl))) (mvT hZ (hw _ (List.mem_of_getElem? (i := 2) rfl))) (mvT hZ (hw _ (List.mem_of_getElem? (i := 3) rfl))) (mvT hZ (hw _ (List.mem_of_getElem? (i := 4) rfl))) (by decide) (backOf (W := 2) (rm1 l Z a0 hw [] q1 (2 : Int32) h14 n0 Zp16 ) hZ (hw _ (List.mem_of_getElem? (i := 4) rfl)) (hw _ (List.mem_of_getElem? (i := 3) rfl)) (by decide) (by decide)) (g := (mkF m 29 #[.val (.long q1), .second, .val (.long q2), .second, .val (.int p3), .val (.ref b1), .unset, .unset, .unset, .unset] [(.int (2 : Int32)), (.long q1), (.int (2 : Int32)), (.ref b1)])) rfl (by rw [hml]; rfl) (argsL := [(.long q1), (.int (2 : Int32))]) (rest := [(.int (2 : Int32)), (.ref b1)]) (lenOf pd__40_JI_41_B rfl) rfl (by show 2 * 0 + _ ≤ _; exact Nat.le_of_eq rfl) (hb hby at_29) (fun _ _ => ⟨rfl, e14, (by decide : (((0 + 1) + 0) + 0) + 0 ≤ _), (by decide : (((0 + 16) + 0) + 0) + 0 ≤ _)⟩)
  dsimp only [Pt.U, Pt.locs, Pt.cells, Pt.slots] at X18 l18 y18 z18 st18 hQ18
  rw [l18, y18, z18] at X18
  obtain ⟨r18, rfl, Nq18, e18, P18_0, P18_1⟩ := hQ18
  have Np19 := Fr.app Np17 Nq18
  refine Go.on st18 ?_
  show Go p.tables e below s _ _ _ (T18.setTop (mkF m 32 #[.val (.long q1), .second, .val (.long q2), .second, .val (.int p3), .val (.ref b1), .unset, .unset, .unset, .unset] [(.int r18), (.int (2 : Int32)), (.ref b1)]))
  obtain ⟨cl20, Ar20, q20, S20, M20, H20, G20⟩ := id Vb1_15
  have hin20 : ¬ ((2 : Int32) < 0 ∨ cl20.slots.size ≤ ((2 : Int32)).toNatClampNeg) := inb_of S20 ⟨by decide, by decide⟩
  obtain ⟨T20, h20, X20, e20, W20, st20⟩ := stB X18 hx hZ e18 Ar20 (j := (2 : Int32)) hin20 (g := (mkF m 32 #[.val (.long q1), .second, .val (.long q2), .second, .val (.int p3), .val (.ref b1), .unset, .unset, .unset, .unset] [(.int r18), (.int (2 : Int32)), (.ref b1)])) rfl rfl (hb hby at_32)
  rw [P18_0] at W20
  have Vb1_21 : Arv Z h20 b1 k1 .byte (16 : Int32) [(.int r6), (.int r12), (.int r18), (.int (0 : Int32)), (.int (0 : Int32)), (.int (0 : Int32)), (.int (0 : Int32)), (.int (0 : Int32)), (.int (0 : Int32)), (.int (0 : Int32)), (.int (0 : Int32)), (.int (0 : Int32)), (.int (0 : Int32)), (.int (0 : Int32)), (.int (0 : Int32)), (.int (0 : Int32))] (.int (0 : Int32)) := Arv.set Ar20 q20 S20 M20 H20 G20 P18_1 W20 2 rfl (Nat.le_of_ble_eq_true rfl)
  have Zp22 := Nat.le_trans Zp16 (Keep.of_wr W20).1
  have Np23 := Fr.snoc X20 Np19 ge2
  refine Go.on st20 ?_
  show Go p.tables e below s _ _ _ (T20.setTop (mkF m 33 #[.val (.long q1), .second, .val (.long q2), .second, .val (.int p3), .val (.ref b1), .unset, .unset, .unset, .unset] []))
  refine Go.on (fun t k => XS.aload X20.here hx rfl (hb hby at_33) rfl rfl k) ?_
  show Go p.tables e below s _ _ _ (T20.setTop (mkF m 35 #[.val (.long q1), .second, .val (.long q2), .second, .val (.int p3), .val (.ref b1), .unset, .unset, .unset, .unset] [(.ref b1)]))
  refine Go.on (fun t k => XS.iconst X20.here hx rfl (hb hby at_35) k) ?_
  show Go p.tables e below s _ _ _ (T20.setTop (mkF m 36 #[.val (.long q1), .second, .val (.long q2), .second, .val (.int p3), .val (.ref b1), .unset, .unset, .unset, .unset] [(.int (3 : Int32)), (.ref b1)]))
  refine Go.on (fun t k => XS.lloadN X20.here hx rfl (hb hby at_36) rfl k) ?_
  show Go p.tables e below s _ _ _ (T20.setTop (mkF m 37 #[.val (.long q1), .second, .val (.long q2), .second, .val (.int p3), .val (.ref b1), .unset, .unset, .unset, .unset] [(.long q1), (.int (3 : Int32)), (.ref b1)]))
  refine Go.on (fun t k => XS.iconst X20.here hx rfl (hb hby at_37) k) ?_
  show Go p.tables e below s _ _ _ (T20.setTop (mkF m 38 #[.val (.long q1), .second, .val (.long q2), .second, .val (.int p3), .val (.ref b1), .unset, .unset, .unset, .unset] [(.int (3 : Int32)), (.long q1), (.int (3 : Int32)), (.ref b1)]))
  obtain ⟨_, _, ⟨T24, L24, k24, n24⟩, -, X24, ⟨Lc24, hQ24, l24, y24, z24⟩, st24⟩ := Jvm.LawKit.callS X20 hx (y := (⟨"com/example/tidewell/tidewell/engine/FieldTextTextHashPinLaw", "b", "(JI)B"⟩ : MethodName)) hown (mvT hZ (hw _ (List.mem_of_getElem? (i := 1) rfl))) (mvT hZ (hw _ (List.mem_of_getElem? (i := 2) rfl))) (mvT hZ (hw _ (List.mem_of_getElem? (i := 3) rfl))) (mvT hZ (hw _ (List.mem_of_getElem? (i := 4) rfl))) (by decide) (backOf (W := 2) (rm1 l Z a0 hw [] q1 (3 : Int32) h20 n0 Zp22 ) hZ (hw _ (List.mem_of_getElem? (i := 4) rfl)) (hw _ (List.mem_of_getElem? (i := 3) rfl)) (by decide) (by decide)) (g := (mkF m 38 #[.val (.long q1), .second, .val (.long q2), .second, .val (.int p3), .val (.ref b1), .unset, .unset, .unset, .unset] [(.int (3 : Int32)), (.long q1), (.int (3 : Int32)), (.ref b1)])) rfl (by rw [hml]; rfl) (argsL := [(.long q1), (.int (3 : Int32))]) (rest := [(.int (3 : Int32)), (.ref b1)]) (lenOf pd__40_JI_41_B rfl) rfl (by show 2 * 0 + _ ≤ _; exact Nat.le_of_eq rfl) (hb hby at_38) (fun _ _ => ⟨rfl, e20, (by decide : ((((0 + 1) + 0) + 0) + 0) + 0 ≤ _), (by decide : ((((0 + 16) + 0) + 0) + 0) + 0 ≤ _)⟩)
  dsimp only [Pt.U, Pt.locs, Pt.cells, Pt.slots] at X24 l24 y24 z24 st24 hQ24
  rw [l24, y24, z24] at X24
  obtain ⟨r24, rfl, Nq24, e24, P24_0, P24_1⟩ := hQ24
  have Np25 := Fr.app Np23 Nq24
  refine Go.on st24 ?_
  show Go p.tables e below s _ _ _ (T24.setTop (mkF m 41 #[.val (.long q1), .second, .val (.long q2), .second, .val (.int p3), .val (.ref b1), .unset, .unset, .unset, .unset] [(.int r24), (.int (3 : Int32)), (.ref b1)]))
  obtain ⟨cl26, Ar26, q26, S26, M26, H26, G26⟩ := id Vb1_21
  have hin26 : ¬ ((3 : Int32) < 0 ∨ cl26.slots.size ≤ ((3 : Int32)).toNatClampNeg) := inb_of S26 ⟨by decide, by decide⟩
  obtain ⟨T26, h26, X26, e26, W26, st26⟩ := stB X24 hx hZ e24 Ar26 (j := (3 : Int32)) hin26 (g := (mkF m 41 #[.val (.long q1), .second, .val (.long q2), .second, .val (.int p3), .val (.ref b1), .unset, .unset, .unset, .unset] [(.int r24), (.int (3 : Int32)), (.ref b1)])) rfl rfl (hb hby at_41)
  rw [P24_0] at W26
  have Vb1_27 : Arv Z h26 b1 k1 .byte (16 : Int32) [(.int r6), (.int r12), (.int r18), (.int r24), (.int (0 : Int32)), (.int (0 : Int32)), (.int (0 : Int32)), (.int (0 : Int32)), (.int (0 : Int32)), (.int (0 : Int32)), (.int (0 : Int32)), (.int (0 : Int32)), (.int (0 : Int32)), (.int (0 : Int32)), (.int (0 : Int32)), (.int (0 : Int32))] (.int (0 : Int32)) := Arv.set Ar26 q26 S26 M26 H26 G26 P24_1 W26 3 rfl (Nat.le_of_ble_eq_true rfl)
  have Zp28 := Nat.le_trans Zp22 (Keep.of_wr W26).1
  have Np29 := Fr.snoc X26 Np25 ge2
  refine Go.on st26 ?_
  show Go p.tables e below s _ _ _ (T26.setTop (mkF m 42 #[.val (.long q1), .second, .val (.long q2), .second, .val (.int p3), .val (.ref b1), .unset, .unset, .unset, .unset] []))
  refine Go.on (fun t k => XS.aload X26.here hx rfl (hb hby at_42) rfl rfl k) ?_
  show Go p.tables e below s _ _ _ (T26.setTop (mkF m 44 #[.val (.long q1), .second, .val (.long q2), .second, .val (.int p3), .val (.ref b1), .unset, .unset, .unset, .unset] [(.ref b1)]))
  refine Go.on (fun t k => XS.iconst X26.here hx rfl (hb hby at_44) k) ?_
  show Go p.tables e below s _ _ _ (T26.setTop (mkF m 45 #[.val (.long q1), .second, .val (.long q2), .second, .val (.int p3), .val (.ref b1), .unset, .unset, .unset, .unset] [(.int (4 : Int32)), (.ref b1)]))
  refine Go.on (fun t k => XS.lloadN X26.here hx rfl (hb hby at_45) rfl k) ?_
  show Go p.tables e below s _ _ _ (T26.setTop (mkF m 46 #[.val (.long q1), .second, .val (.long q2), .second, .val (.int p3), .val (.ref b1), .unset, .unset, .unset, .unset] [(.long q1), (.int (4 : Int32)), (.ref b1)]))
  refine Go.on (fun t k => XS.iconst X26.here hx rfl (hb hby at_46) k) ?_
  show Go p.tables e below s _ _ _ (T26.setTop (mkF m 47 #[.val (.long q1), .second, .val (.long q2), .second, .val (.int p3), .val (.ref b1), .unset, .unset, .unset, .unset] [(.int (4 : Int32)), (.long q1), (.int (4 : Int32)), (.ref b1)]))
  obtain ⟨_, _, ⟨T30, L30, k30, n30⟩, -, X30, ⟨Lc30, hQ30, l30, y30, z30⟩, st30⟩ := Jvm.LawKit.callS X26 hx (y := (⟨"com/example/tidewell/tidewell/engine/FieldTextTextHashPinLaw", "b", "(JI)B"⟩ : MethodName)) hown (mvT hZ (hw _ (List.mem_of_getElem? (i := 1) rfl))) (mvT hZ (hw _ (List.mem_of_getElem? (i := 2) rfl))) (mvT hZ (hw _ (List.mem_of_getElem? (i := 3) rfl))) (mvT hZ (hw _ (List.mem_of_getElem? (i := 4) rfl))) (by decide) (backOf (W := 2) (rm1 l Z a0 hw [] q1 (4 : Int32) h26 n0 Zp28 ) hZ (hw _ (List.mem_of_getElem? (i := 4) rfl)) (hw _ (List.mem_of_getElem? (i := 3) rfl)) (by decide) (by decide)) (g := (mkF m 47 #[.val (.long q1), .second, .val (.long q2), .second, .val (.int p3), .val (.ref b1), .unset, .unset, .unset, .unset] [(.int (4 : Int32)), (.long q1), (.int (4 : Int32)), (.ref b1)])) rfl (by rw [hml]; rfl) (argsL := [(.long q1), (.int (4 : Int32))]) (rest := [(.int (4 : Int32)), (.ref b1)]) (lenOf pd__40_JI_41_B rfl) rfl (by show 2 * 0 + _ ≤ _; exact Nat.le_of_eq rfl) (hb hby at_47) (fun _ _ => ⟨rfl, e26, (by decide : (((((0 + 1) + 0) + 0) + 0) + 0) + 0 ≤ _), (by decide : (((((0 + 16) + 0) + 0) + 0) + 0) + 0 ≤ _)⟩)
  dsimp only [Pt.U, Pt.locs, Pt.cells, Pt.slots] at X30 l30 y30 z30 st30 hQ30
  rw [l30, y30, z30] at X30
  obtain ⟨r30, rfl, Nq30, e30, P30_0, P30_1⟩ := hQ30
  have Np31 := Fr.app Np29 Nq30
  refine Go.on st30 ?_
  show Go p.tables e below s _ _ _ (T30.setTop (mkF m 50 #[.val (.long q1), .second, .val (.long q2), .second, .val (.int p3), .val (.ref b1), .unset, .unset, .unset, .unset] [(.int r30), (.int (4 : Int32)), (.ref b1)]))
  obtain ⟨cl32, Ar32, q32, S32, M32, H32, G32⟩ := id Vb1_27
  have hin32 : ¬ ((4 : Int32) < 0 ∨ cl32.slots.size ≤ ((4 : Int32)).toNatClampNeg) := inb_of S32 ⟨by decide, by decide⟩
  obtain ⟨T32, h32, X32, e32, W32, st32⟩ := stB X30 hx hZ e30 Ar32 (j := (4 : Int32)) hin32 (g := (mkF m 50 #[.val (.long q1), .second, .val (.long q2), .second, .val (.int p3), .val (.ref b1), .unset, .unset, .unset, .unset] [(.int r30), (.int (4 : Int32)), (.ref b1)])) rfl rfl (hb hby at_50)
  rw [P30_0] at W32
  have Vb1_33 : Arv Z h32 b1 k1 .byte (16 : Int32) [(.int r6), (.int r12), (.int r18), (.int r24), (.int r30), (.int (0 : Int32)), (.int (0 : Int32)), (.int (0 : Int32)), (.int (0 : Int32)), (.int (0 : Int32)), (.int (0 : Int32)), (.int (0 : Int32)), (.int (0 : Int32)), (.int (0 : Int32)), (.int (0 : Int32)), (.int (0 : Int32))] (.int (0 : Int32)) := Arv.set Ar32 q32 S32 M32 H32 G32 P30_1 W32 4 rfl (Nat.le_of_ble_eq_true rfl)
  have Zp34 := Nat.le_trans Zp28 (Keep.of_wr W32).1
  have Np35 := Fr.snoc X32 Np31 ge2
  refine Go.on st32 ?_
  show Go p.tables e below s _ _ _ (T32.setTop (mkF m 51 #[.val (.long q1), .second, .val (.long q2), .second, .val (.int p3), .val (.ref b1), .unset, .unset, .unset, .unset] []))
  refine Go.on (fun t k => XS.aload X32.here hx rfl (hb hby at_51) rfl rfl k) ?_
  show Go p.tables e below s _ _ _ (T32.setTop (mkF m 53 #[.val (.long q1), .second, .val (.long q2), .second, .val (.int p3), .val (.ref b1), .unset, .unset, .unset, .unset] [(.ref b1)]))
  refine Go.on (fun t k => XS.iconst X32.here hx rfl (hb hby at_53) k) ?_
  show Go p.tables e below s _ _ _ (T32.setTop (mkF m 54 #[.val (.long q1), .second, .val (.long q2), .second, .val (.int p3), .val (.ref b1), .unset, .unset, .unset, .unset] [(.int (5 : Int32)), (.ref b1)]))
  refine Go.on (fun t k => XS.lloadN X32.here hx rfl (hb hby at_54) rfl k) ?_
  show Go p.tables e below s _ _ _ (T32.setTop (mkF m 55 #[.val (.long q1), .second, .val (.long q2), .second, .val (.int p3), .val (.ref b1), .unset, .unset, .unset, .unset] [(.long q1), (.int (5 : Int32)), (.ref b1)]))
  refine Go.on (fun t k => XS.iconst X32.here hx rfl (hb hby at_55) k) ?_
  show Go p.tables e below s _ _ _ (T32.setTop (mkF m 56 #[.val (.long q1), .second, .val (.long q2), .second, .val (.int p3), .val (.ref b1), .unset, .unset, .unset, .unset] [(.int (5 : Int32)), (.long q1), (.int (5 : Int32)), (.ref b1)]))
  obtain ⟨_, _, ⟨T36, L36, k36, n36⟩, -, X36, ⟨Lc36, hQ36, l36, y36, z36⟩, st36⟩ := Jvm.LawKit.callS X32 hx (y := (⟨"com/example/tidewell/tidewell/engine/FieldTextTextHashPinLaw", "b", "(JI)B"⟩ : MethodName)) hown (mvT hZ (hw _ (List.mem_of_getElem? (i := 1) rfl))) (mvT hZ (hw _ (List.mem_of_getElem? (i := 2) rfl))) (mvT hZ (hw _ (List.mem_of_getElem? (i := 3) rfl))) (mvT hZ (hw _ (List.mem_of_getElem? (i := 4) rfl))) (by decide) (backOf (W := 2) (rm1 l Z a0 hw [] q1 (5 : Int32) h32 n0 Zp34 ) hZ (hw _ (List.mem_of_getElem? (i := 4) rfl)) (hw _ (List.mem_of_getElem? (i := 3) rfl)) (by decide) (by decide)) (g := (mkF m 56 #[.val (.long q1), .second, .val (.long q2), .second, .val (.int p3), .val (.ref b1), .unset, .unset, .unset, .unset] [(.int (5 : Int32)), (.long q1), (.int (5 : Int32)), (.ref b1)])) rfl (by rw [hml]; rfl) (argsL := [(.long q1), (.int (5 : Int32))]) (rest := [(.int (5 : Int32)), (.ref b1)]) (lenOf pd__40_JI_41_B rfl) rfl (by show 2 * 0 + _ ≤ _; exact Nat.le_of_eq rfl) (hb hby at_56) (fun _ _ => ⟨rfl, e32, (by decide : ((((((0 + 1) + 0) + 0) + 0) + 0) + 0) + 0 ≤ _), (by decide : ((((((0 + 16) + 0) + 0) + 0) + 0) + 0) + 0 ≤ _)⟩)
  dsimp only [Pt.U, Pt.locs, Pt.cells, Pt.slots] at X36 l36 y36 z36 st36 hQ36
  rw [l36, y36, z36] at X36
  obtain ⟨r36, rfl, Nq36, e36, P36_0, P36_1⟩ := hQ36
  have Np37 := Fr.app Np35 Nq36
  refine Go.on st36 ?_
  show Go p.tables e below s _ _ _ (T36.setTop (mkF m 59 #[.val (.long q1), .second, .val (.long q2), .second, .val (.int p3), .val (.ref b1), .unset, .unset, .unset, .unset] [(.int r36), (.int (5 : Int32)), (.ref b1)]))
  obtain ⟨cl38, Ar38, q38, S38, M38, H38, G38⟩ := id Vb1_33
  have hin38 : ¬ ((5 : Int32) < 0 ∨ cl38.slots.size ≤ ((5 : Int32)).toNatClampNeg) := inb_of S38 ⟨by decide, by decide⟩
  obtain ⟨T38, h38, X38, e38, W38, st38⟩ := stB X36 hx hZ e36 Ar38 (j := (5 : Int32)) hin38 (g := (mkF m 59 #[.val (.long q1), .second, .val (.long q2), .second, .val (.int p3), .val (.ref b1), .unset, .unset, .unset, .unset] [(.int r36), (.int (5 : Int32)), (.ref b1)])) rfl rfl (hb hby at_59)
  rw [P36_0] at W38
  have Vb1_39 : Arv Z h38 b1 k1 .byte (16 : Int32) [(.int r6), (.int r12), (.int r18), (.int r24), (.int r30), (.int r36), (.int (0 : Int32)), (.int (0 : Int32)), (.int (0 : Int32)), (.int (0 : Int32)), (.int (0 : Int32)), (.int (0 : Int32)), (.int (0 : Int32)), (.int (0 : Int32)), (.int (0 : Int32)), (.int (0 : Int32))] (.int (0 : Int32)) := Arv.set Ar38 q38 S38 M38 H38 G38 P36_1 W38 5 rfl (Nat.le_of_ble_eq_true rfl)
  have Zp40 := Nat.le_trans Zp34 (Keep.of_wr W38).1
  have Np41 := Fr.snoc X38 Np37 ge2
  refine Go.on st38 ?_
  show Go p.tables e below s _ _ _ (T38.setTop (mkF m 60 #[.val (.long q1), .second, .val (.long q2), .second, .val (.int p3), .val (.ref b1), .unset, .unset, .unset, .unset] []))
  refine Go.on (fun t k => XS.aload X38.here hx rfl (hb hby at_60) rfl rfl k) ?_
  show Go p.tables e below s _ _ _ (T38.setTop (mkF m 62 #[.val (.long q1), .second, .val (.long q2), .second, .val (.int p3), .val (.ref b1), .unset, .unset, .unset, .unset] [(.ref b1)]))
  refine Go.on (fun t k => XS.bipush X38.here hx rfl (hb hby at_62) k) ?_
  show Go p.tables e below s _ _ _ (T38.setTop (mkF m 64 #[.val (.long q1), .second, .val (.long q2), .second, .val (.int p3), .val (.ref b1), .unset, .unset, .unset, .unset] [(.int (6 : Int32)), (.ref b1)]))
  refine Go.on (fun t k => XS.lloadN X38.here hx rfl (hb hby at_64) rfl k) ?_
  show Go p.tables e below s _ _ _ (T38.setTop (mkF m 65 #[.val (.long q1), .second, .val (.long q2), .second, .val (.int p3), .val (.ref b1), .unset, .unset, .unset, .unset] [(.long q1), (.int (6 : Int32)), (.ref b1)]))
  refine Go.on (fun t k => XS.bipush X38.here hx rfl (hb hby at_65) k) ?_
  show Go p.tables e below s _ _ _ (T38.setTop (mkF m 67 #[.val (.long q1), .second, .val (.long q2), .second, .val (.int p3), .val (.ref b1), .unset, .unset, .unset, .unset] [(.int (6 : Int32)), (.long q1), (.int (6 : Int32)), (.ref b1)]))
  obtain ⟨_, _, ⟨T42, L42, k42, n42⟩, -, X42, ⟨Lc42, hQ42, l42, y42, z42⟩, st42⟩ := Jvm.LawKit.callS X38 hx (y := (⟨"com/example/tidewell/tidewell/engine/FieldTextTextHashPinLaw", "b", "(JI)B"⟩ : MethodName)) hown (mvT hZ (hw _ (List.mem_of_getElem? (i := 1) rfl))) (mvT hZ (hw _ (List.mem_of_getElem? (i := 2) rfl))) (mvT hZ (hw _ (List.mem_of_getElem? (i := 3) rfl))) (mvT hZ (hw _ (List.mem_of_getElem? (i := 4) rfl))) (by decide) (backOf (W := 2) (rm1 l Z a0 hw [] q1 (6 : Int32) h38 n0 Zp40 ) hZ (hw _ (List.mem_of_getElem? (i := 4) rfl)) (hw _ (List.mem_of_getElem? (i := 3) rfl)) (by decide) (by decide)) (g := (mkF m 67 #[.val (.long q1), .second, .val (.long q2), .second, .val (.int p3), .val (.ref b1), .unset, .unset, .unset, .unset] [(.int (6 : Int32)), (.long q1), (.int (6 : Int32)), (.ref b1)])) rfl (by rw [hml]; rfl) (argsL := [(.long q1), (.int (6 : Int32))]) (rest := [(.int (6 : Int32)), (.ref b1)]) (lenOf pd__40_JI_41_B rfl) rfl (by show 2 * 0 + _ ≤ _; exact Nat.le_of_eq rfl) (hb hby at_67) (fun _ _ => ⟨rfl, e38, (by decide : (((((((0 + 1) + 0) + 0) + 0) + 0) + 0) + 0) + 0 ≤ _), (by decide : (((((((0 + 16) + 0) + 0) + 0) + 0) + 0) + 0) + 0 ≤ _)⟩)
  dsimp only [Pt.U, Pt.locs, Pt.cells, Pt.slots] at X42 l42 y42 z42 st42 hQ42
  rw [l42, y42, z42] at X42
  obtain ⟨r42, rfl, Nq42, e42, P42_0, P42_1⟩ := hQ42
  have Np43 := Fr.app Np41 Nq42
  refine Go.on st42 ?_
  show Go p.tables e below s _ _ _ (T42.setTop (mkF m 70 #[.val (.long q1), .second, .val (.long q2), .second, .val (.int p3), .val (.ref b1), .unset, .unset, .unset, .unset] [(.int r42), (.int (6 : Int32)), (.ref b1)]))
  obtain ⟨cl44, Ar44, q44, S44, M44, H44, G44⟩ := id Vb1_39
  have hin44 : ¬ ((6 : Int32) < 0 ∨ cl44.slots.size ≤ ((6 : Int32)).toNatClampNeg) := inb_of S44 ⟨by decide, by decide⟩
  obtain ⟨T44, h44, X44, e44, W44, st44⟩ := stB X42 hx hZ e42 Ar44 (j := (6 : Int32)) hin44 (g := (mkF m 70 #[.val (.long q1), .second, .val (.long q2), .second, .val (.int p3), .val (.ref b1), .unset, .unset, .unset, .unset] [(.int r42), (.int (6 : Int32)), (.ref b1)])) rfl rfl (hb hby at_70)
  rw [P42_0] at W44
  have Vb1_45 : Arv Z h44 b1 k1 .byte (16 : Int32) [(.int r6), (.int r12), (.int r18), (.int r24), (.int r30), (.int r36), (.int r42), (.int (0 : Int32)), (.int (0 : Int32)), (.int (0 : Int32)), (.int (0 : Int32)), (.int (0 : Int32)), (.int (0 : Int32)), (.int (0 : Int32)), (.int (0 : Int32)), (.int (0 : Int32))] (.int (0 : Int32)) := Arv.set Ar44 q44 S44 M44 H44 G44 P42_1 W44 6 rfl (Nat.le_of_ble_eq_true rfl)
  have Zp46 := Nat.le_trans Zp40 (Keep.of_wr W44).1
  have Np47 := Fr.snoc X44 Np43 ge2
  refine Go.on st44 ?_
  show Go p.tables e below s _ _ _ (T44.setTop (mkF m 71 #[.val (.long q1), .second, .val (.long q2), .second, .val (.int p3), .val (.ref b1), .unset, .unset, .unset, .unset] []))
  refine Go.on (fun t k => XS.aload X44.here hx rfl (hb hby at_71) rfl rfl k) ?_
  show Go p.tables e below s _ _ _ (T44.setTop (mkF m 73 #[.val (.long q1), .second, .val (.long q2), .second, .val (.int p3), .val (.ref b1), .unset, .unset, .unset, .unset] [(.ref b1)]))
  refine Go.on (fun t k => XS.bipush X44.here hx rfl (hb hby at_73) k) ?_
  show Go p.tables e below s _ _ _ (T44.setTop (mkF m 75 #[.val (.long q1), .second, .val (.long q2), .second, .val (.int p3), .val (.ref b1), .unset, .unset, .unset, .unset] [(.int (7 : Int32)), (.ref b1)]))
  refine Go.on (fun t k => XS.lloadN X44.here hx rfl (hb hby at_75) rfl k) ?_
  show Go p.tables e below s _ _ _ (T44.setTop (mkF m 76 #[.val (.long q1), .second, .val (.long q2), .second, .val (.int p3), .val (.ref b1), .unset, .unset, .unset, .unset] [(.long q1), (.int (7 : Int32)), (.ref b1)]))
  refine Go.on (fun t k => XS.bipush X44.here hx rfl (hb hby at_76) k) ?_
  show Go p.tables e below s _ _ _ (T44.setTop (mkF m 78 #[.val (.long q1), .second, .val (.long q2), .second, .val (.int p3), .val (.ref b1), .unset, .unset, .unset, .unset] [(.int (7 : Int32)), (.long q1), (.int (7 : Int32)), (.ref b1)]))
  obtain ⟨_, _, ⟨T48, L48, k48, n48⟩, -, X48, ⟨Lc48, hQ48, l48, y48, z48⟩, st48⟩ := Jvm.LawKit.callS X44 hx (y := (⟨"com/example/tidewell/tidewell/engine/FieldTextTextHashPinLaw", "b", "(JI)B"⟩ : MethodName)) hown (mvT hZ (hw _ (List.mem_of_getElem? (i := 1) rfl))) (mvT hZ (hw _ (List.mem_of_getElem? (i := 2) rfl))) (mvT hZ (hw _ (List.mem_of_getElem? (i := 3) rfl))) (mvT hZ (hw _ (List.mem_of_getElem? (i := 4) rfl))) (by decide) (backOf (W := 2) (rm1 l Z a0 hw [] q1 (7 : Int32) h44 n0 Zp46 ) hZ (hw _ (List.mem_of_getElem? (i := 4) rfl)) (hw _ (List.mem_of_getElem? (i := 3) rfl)) (by decide) (by decide)) (g := (mkF m 78 #[.val (.long q1), .second, .val (.long q2), .second, .val (.int p3), .val (.ref b1), .unset, .unset, .unset, .unset] [(.int (7 : Int32)), (.long q1), (.int (7 : Int32)), (.ref b1)])) rfl (by rw [hml]; rfl) (argsL := [(.long q1), (.int (7 : Int32))]) (rest := [(.int (7 : Int32)), (.ref b1)]) (lenOf pd__40_JI_41_B rfl) rfl (by show 2 * 0 + _ ≤ _; exact Nat.le_of_eq rfl) (hb hby at_78) (fun _ _ => ⟨rfl, e44, (by decide : ((((((((0 + 1) + 0) + 0) + 0) + 0) + 0) + 0) + 0) + 0 ≤ _), (by decide : ((((((((0 + 16) + 0) + 0) + 0) + 0) + 0) + 0) + 0) + 0 ≤ _)⟩)
  dsimp only [Pt.U, Pt.locs, Pt.cells, Pt.slots] at X48 l48 y48 z48 st48 hQ48
  rw [l48, y48, z48] at X48
  obtain ⟨r48, rfl, Nq48, e48, P48_0, P48_1⟩ := hQ48
  have Np49 := Fr.app Np47 Nq48
  refine Go.on st48 ?_
  show Go p.tables e below s _ _ _ (T48.setTop (mkF m 81 #[.val (.long q1), .second, .val (.long q2), .second, .val (.int p3), .val (.ref b1), .unset, .unset, .unset, .unset] [(.int r48), (.int (7 : Int32)), (.ref b1)]))
  obtain ⟨cl50, Ar50, q50, S50, M50, H50, G50⟩ := id Vb1_45
  have hin50 : ¬ ((7 : Int32) < 0 ∨ cl50.slots.size ≤ ((7 : Int32)).toNatClampNeg) := inb_of S50 ⟨by decide, by decide⟩
  obtain ⟨T50, h50, X50, e50, W50, st50⟩ := stB X48 hx hZ e48 Ar50 (j := (7 : Int32)) hin50 (g := (mkF m 81 #[.val (.long q1), .second, .val (.long q2), .second, .val (.int p3), .val (.ref b1), .unset, .unset, .unset, .unset] [(.int r48), (.int (7 : Int32)), (.ref b1)])) rfl rfl (hb hby at_81)
  rw [P48_0] at W50
  have Vb1_51 : Arv Z h50 b1 k1 .byte (16 : Int32) [(.int r6), (.int r12), (.int r18), (.int r24), (.int r30), (.int r36), (.int r42), (.int r48), (.int (0 : Int32)), (.int (0 : Int32)), (.int (0 : Int32)), (.int (0 : Int32)), (.int (0 : Int32)), (.int (0 : Int32)), (.int (0 : Int32)), (.int (0 : Int32))] (.int (0 : Int32)) := Arv.set Ar50 q50 S50 M50 H50 G50 P48_1 W50 7 rfl (Nat.le_of_ble_eq_true rfl)
  have Zp52 := Nat.le_trans Zp46 (Keep.of_wr W50).1
  have Np53 := Fr.snoc X50 Np49 ge2
  refine Go.on st50 ?_
  show Go p.tables e below s _ _ _ (T50.setTop (mkF m 82 #[.val (.long q1), .second, .val (.long q2), .second, .val (.int p3), .val (.ref b1), .unset, .unset, .unset, .unset] []))
  refine Go.on (fun t k => XS.aload X50.here hx rfl (hb hby at_82) rfl rfl k) ?_
  show Go p.tables e below s _ _ _ (T50.setTop (mkF m 84 #[.val (.long q1), .second, .val (.long q2), .second, .val (.int p3), .val (.ref b1), .unset, .unset, .unset, .unset] [(.ref b1)]))
  refine Go.on (fun t k => XS.bipush X50.here hx rfl (hb hby at_84) k) ?_
  show Go p.tables e below s _ _ _ (T50.setTop (mkF m 86 #[.val (.long q1), .second, .val (.long q2), .second, .val (.int p3), .val (.ref b1), .unset, .unset, .unset, .unset] [(.int (8 : Int32)), (.ref b1)]))
  refine Go.on (fun t k => XS.lloadN X50.here hx rfl (hb hby at_86) rfl k) ?_
  show Go p.tables e below s _ _ _ (T50.setTop (mkF m 87 #[.val (.long q1), .second, .val (.long q2), .second, .val (.int p3), .val (.ref b1), .unset, .unset, .unset, .unset] [(.long q2), (.int (8 : Int32)), (.ref b1)]))
  refine Go.on (fun t k => XS.iconst X50.here hx rfl (hb hby at_87) k) ?_
  show Go p.tables e below s _ _ _ (T50.setTop (mkF m 88 #[.val (.long q1), .second, .val (.long q2), .second, .val (.int p3), .val (.ref b1), .unset, .unset, .unset, .unset] [(.int (0 : Int32)), (.long q2), (.int (8 : Int32)), (.ref b1)]))
  obtain ⟨_, _, ⟨T54, L54, k54, n54⟩, -, X54, ⟨Lc54, hQ54, l54, y54, z54⟩, st54⟩ := Jvm.LawKit.callS X50 hx (y := (⟨"com/example/tidewell/tidewell/engine/FieldTextTextHashPinLaw", "b", "(JI)B"⟩ : MethodName)) hown (mvT hZ (hw _ (List.mem_of_getElem? (i := 1) rfl))) (mvT hZ (hw _ (List.mem_of_getElem? (i := 2) rfl))) (mvT hZ (hw _ (List.mem_of_getElem? (i := 3) rfl))) (mvT hZ (hw _ (List.mem_of_getElem? (i := 4) rfl))) (by decide) (backOf (W := 2) (rm1 l Z a0 hw [] q2 (0 : Int32) h50 n0 Zp52 ) hZ (hw _ (List.mem_of_getElem? (i := 4) rfl)) (hw _ (List.mem_of_getElem? (i := 3) rfl)) (by decide) (by decide)) (g := (mkF m 88 #[.val (.long q1), .second, .val (.long q2), .second, .val (.int p3), .val (.ref b1), .unset, .unset, .unset, .unset] [(.int (0 : Int32)), (.long q2), (.int (8 : Int32)), (.ref b1)])) rfl (by rw [hml]; rfl) (argsL := [(.long q2), (.int (0 : Int32))]) (rest := [(.int (8 : Int32)), (.ref b1)]) (lenOf pd__40_JI_41_B rfl) rfl (by show 2 * 0 + _ ≤ _; exact Nat.le_of_eq rfl) (hb hby at_88) (fun _ _ => ⟨rfl, e50, (by decide : (((((((((0 + 1) + 0) + 0) + 0) + 0) + 0) + 0) + 0) + 0) + 0 ≤ _), (by decide : (((((((((0 + 16) + 0) + 0) + 0) + 0) + 0) + 0) + 0) + 0) + 0 ≤ _)⟩)
  dsimp only [Pt.U, Pt.locs, Pt.cells, Pt.slots] at X54 l54 y54 z54 st54 hQ54
  rw [l54, y54, z54] at X54
  obtain ⟨r54, rfl, Nq54, e54, P54_0, P54_1⟩ := hQ54
  have Np55 := Fr.app Np53 Nq54
  refine Go.on st54 ?_
  show Go p.tables e below s _ _ _ (T54.setTop (mkF m 91 #[.val (.long q1), .second, .val (.long q2), .second, .val (.int p3), .val (.ref b1), .unset, .unset, .unset, .unset] [(.int r54), (.int (8 : Int32)), (.ref b1)]))
  obtain ⟨cl56, Ar56, q56, S56, M56, H56, G56⟩ := id Vb1_51
  have hin56 : ¬ ((8 : Int32) < 0 ∨ cl56.slots.size ≤ ((8 : Int32)).toNatClampNeg) := inb_of S56 ⟨by decide, by decide⟩
  obtain ⟨T56, h56, X56, e56, W56, st56⟩ := stB X54 hx hZ e54 Ar56 (j := (8 : Int32)) hin56 (g := (mkF m 91 #[.val (.long q1), .second, .val (.long q2), .second, .val (.int p3), .val (.ref b1), .unset, .unset, .unset, .unset] [(.int r54), (.int (8 : Int32)), (.ref b1)])) rfl rfl (hb hby at_91)
  rw [P54_0] at W56
  have Vb1_57 : Arv Z h56 b1 k1 .byte (16 : Int32) [(.int r6), (.int r12), (.int r18), (.int r24), (.int r30), (.int r36), (.int r42), (.int r48), (.int r54), (.int (0 : Int32)), (.int (0 : Int32)), (.int (0 : Int32)), (.int (0 : Int32)), (.int (0 : Int32)), (.int (0 : Int32)), (.int (0 : Int32))] (.int (0 : Int32)) := Arv.set Ar56 q56 S56 M56 H56 G56 P54_1 W56 8 rfl (Nat.le_of_ble_eq_true rfl)
  have Zp58 := Nat.le_trans Zp52 (Keep.of_wr W56).1
  have Np59 := Fr.snoc X56 Np55 ge2
  refine Go.on st56 ?_
  show Go p.tables e below s _ _ _ (T56.setTop (mkF m 92 #[.val (.long q1), .second, .val (.long q2), .second, .val (.int p3), .val (.ref b1), .unset, .unset, .unset, .unset] []))
  refine Go.on (fun t k => XS.aload X56.here hx rfl (hb hby at_92) rfl rfl k) ?_
  show Go p.tables e below s _ _ _ (T56.setTop (mkF m 94 #[.val (.long q1), .second, .val (.long q2), .second, .val (.int p3), .val (.ref b1), .unset, .unset, .unset, .unset] [(.ref b1)]))
  refine Go.on (fun t k => XS.bipush X56.here hx rfl (hb hby at_94) k) ?_
  show Go p.tables e below s _ _ _ (T56.setTop (mkF m 96 #[.val (.long q1), .second, .val (.long q2), .second, .val (.int p3), .val (.ref b1), .unset, .unset, .unset, .unset] [(.int (9 : Int32)), (.ref b1)]))
  refine Go.on (fun t k => XS.lloadN X56.here hx rfl (hb hby at_96) rfl k) ?_
  show Go p.tables e below s _ _ _ (T56.setTop (mkF m 97 #[.val (.long q1), .second, .val (.long q2), .second, .val (.int p3), .val (.ref b1), .unset, .unset, .unset, .unset] [(.long q2), (.int (9 : Int32)), (.ref b1)]))
  refine Go.on (fun t k => XS.iconst X56.here hx rfl (hb hby at_97) k) ?_
  show Go p.tables e below s _ _ _ (T56.setTop (mkF m 98 #[.val (.long q1), .second, .val (.long q2), .second, .val (.int p3), .val (.ref b1), .unset, .unset, .unset, .unset] [(.int (1 : Int32)), (.long q2), (.int (9 : Int32)), (.ref b1)]))
  obtain ⟨_, _, ⟨T60, L60, k60, n60⟩, -, X60, ⟨Lc60, hQ60, l60, y60, z60⟩, st60⟩ := Jvm.LawKit.callS X56 hx (y := (⟨"com/example/tidewell/tidewell/engine/FieldTextTextHashPinLaw", "b", "(JI)B"⟩ : MethodName)) hown (mvT hZ (hw _ (List.mem_of_getElem? (i := 1) rfl))) (mvT hZ (hw _ (List.mem_of_getElem? (i := 2) rfl))) (mvT hZ (hw _ (List.mem_of_getElem? (i := 3) rfl))) (mvT hZ (hw _ (List.mem_of_getElem? (i := 4) rfl))) (by decide) (backOf (W := 2) (rm1 l Z a0 hw [] q2 (1 : Int32) h56 n0 Zp58 ) hZ (hw _ (List.mem_of_getElem? (i := 4) rfl)) (hw _ (List.mem_of_getElem? (i := 3) rfl)) (by decide) (by decide)) (g := (mkF m 98 #[.val (.long q1), .second, .val (.long q2), .second, .val (.int p3), .val (.ref b1), .unset, .unset, .unset, .unset] [(.int (1 : Int32)), (.long q2), (.int (9 : Int32)), (.ref b1)])) rfl (by rw [hml]; rfl) (argsL := [(.long q2), (.int (1 : Int32))]) (rest := [(.int (9 : Int32)), (.ref b1)]) (lenOf pd__40_JI_41_B rfl) rfl (by show 2 * 0 + _ ≤ _; exact Nat.le_of_eq rfl) (hb hby at_98) (fun _ _ => ⟨rfl, e56, (by decide : ((((((((((0 + 1) + 0) + 0) + 0) + 0) + 0) + 0) + 0) + 0) + 0) + 0 ≤ _), (by decide : ((((((((((0 + 16) + 0) + 0) + 0) + 0) + 0) + 0) + 0) + 0) + 0) + 0 ≤ _)⟩)
  dsimp only [Pt.U, Pt.locs, Pt.cells, Pt.slots] at X60 l60 y60 z60 st60 hQ60
  rw [l60, y60, z60] at X60
  obtain ⟨r60, rfl, Nq60, e60, P60_0, P60_1⟩ := hQ60
  have Np61 := Fr.app Np59 Nq60
  refine Go.on st60 ?_
  show Go p.tables e below s _ _ _ (T60.setTop (mkF m 101 #[.val (.long q1), .second, .val (.long q2), .second, .val (.int p3), .val (.ref b1), .unset, .unset, .unset, .unset] [(.int r60), (.int (9 : Int32)), (.ref b1)]))
  obtain ⟨cl62, Ar62, q62, S62, M62, H62, G62⟩ := id Vb1_57
  have hin62 : ¬ ((9 : Int32) < 0 ∨ cl62.slots.size ≤ ((9 : Int32)).toNatClampNeg) := inb_of S62 ⟨by decide, by decide⟩
  obtain ⟨T62, h62, X62, e62, W62, st62⟩ := stB X60 hx hZ e60 Ar62 (j := (9 : Int32)) hin62 (g := (mkF m 101 #[.val (.long q1), .second, .val (.long q2), .second, .val (.int p3), .val (.ref b1), .unset, .unset, .unset, .unset] [(.int r60), (.int (9 : Int32)), (.ref b1)])) rfl rfl (hb hby at_101)
  rw [P60_0] at W62
  have Vb1_63 : Arv Z h62 b1 k1 .byte (16 : Int32) [(.int r6), (.int r12), (.int r18), (.int r24), (.int r30), (.int r36), (.int r42), (.int r48), (.int r54), (.int r60), (.int (0 : Int32)), (.int (0 : Int32)), (.int (0 : Int32)), (.int (0 : Int32)), (.int (0 : Int32)), (.int (0 : Int32))] (.int (0 : Int32)) := Arv.set Ar62 q62 S62 M62 H62 G62 P60_1 W62 9 rfl (Nat.le_of_ble_eq_true rfl)
  have Zp64 := Nat.le_trans Zp58 (Keep.of_wr W62).1
  have Np65 := Fr.snoc X62 Np61 ge2
  refine Go.on st62 ?_
  show Go p.tables e below s _ _ _ (T62.setTop (mkF m 102 #[.val (.long q1), .second, .val (.long q2), .second, .val (.int p3), .val (.ref b1), .unset, .unset, .unset, .unset] []))
  refine Go.on (fun t k => XS.aload X62.here hx rfl (hb hby at_102) rfl rfl k) ?_
  show Go p.tables e below s _ _ _ (T62.setTop (mkF m 104 #[.val (.long q1), .second, .val (.long q2), .second, .val (.int p3), .val (.ref b1), .unset, .unset, .unset, .unset] [(.ref b1)]))
  refine Go.on (fun t k => XS.bipush X62.here hx rfl (hb hby at_104) k) ?_
  show Go p.tables e below s _ _ _ (T62.setTop (mkF m 106 #[.val (.long q1), .second, .val (.long q2), .second, .val (.int p3), .val (.ref b1), .unset, .unset, .unset, .unset] [(.int (10 : Int32)), (.ref b1)]))
  refine Go.on (fun t k => XS.lloadN X62.here hx rfl (hb hby at_106) rfl k) ?_
  show Go p.tables e below s _ _ _ (T62.setTop (mkF m 107 #[.val (.long q1), .second, .val (.long q2), .second, .val (.int p3), .val (.ref b1), .unset, .unset, .unset, .unset] [(.long q2), (.int (10 : Int32)), (.ref b1)]))
  refine Go.on (fun t k => XS.iconst X62.here hx rfl (hb hby at_107) k) ?_
  show Go p.tables e below s _ _ _ (T62.setTop (mkF m 108 #[.val (.long q1), .second, .val (.long q2), .second, .val (.int p3), .val (.ref b1), .unset, .unset, .unset, .unset] [(.int (2 : Int32)), (.long q2), (.int (10 : Int32)), (.ref b1)]))
  obtain ⟨_, _, ⟨T66, L66, k66, n66⟩, -, X66, ⟨Lc66, hQ66, l66, y66, z66⟩, st66⟩ := Jvm.LawKit.callS X62 hx (y := (⟨"com/example/tidewell/tidewell/engine/FieldTextTextHashPinLaw", "b", "(JI)B"⟩ : MethodName)) hown (mvT hZ (hw _ (List.mem_of_getElem? (i := 1) rfl))) (mvT hZ (hw _ (List.mem_of_getElem? (i := 2) rfl))) (mvT hZ (hw _ (List.mem_of_getElem? (i := 3) rfl))) (mvT hZ (hw _ (List.mem_of_getElem? (i := 4) rfl))) (by decide) (backOf (W := 2) (rm1 l Z a0 hw [] q2 (2 : Int32) h62 n0 Zp64 ) hZ (hw _ (List.mem_of_getElem? (i := 4) rfl)) (hw _ (List.mem_of_getElem? (i := 3) rfl)) (by decide) (by decide)) (g := (mkF m 108 #[.val (.long q1), .second, .val (.long q2), .second, .val (.int p3), .val (.ref b1), .unset, .unset, .unset, .unset] [(.int (2 : Int32)), (.long q2), (.int (10 : Int32)), (.ref b1)])) rfl (by rw [hml]; rfl) (argsL := [(.long q2), (.int (2 : Int32))]) (rest := [(.int (10 : Int32)), (.ref b1)]) (lenOf pd__40_JI_41_B rfl) rfl (by show 2 * 0 + _ ≤ _; exact Nat.le_of_eq rfl) (hb hby at_108) (fun _ _ => ⟨rfl, e62, (by decide : (((((((((((0 + 1) + 0) + 0) + 0) + 0) + 0) + 0) + 0) + 0) + 0) + 0) + 0 ≤ _), (by decide : (((((((((((0 + 16) + 0) + 0) + 0) + 0) + 0) + 0) + 0) + 0) + 0) + 0) + 0 ≤ _)⟩)
  dsimp only [Pt.U, Pt.locs, Pt.cells, Pt.slots] at X66 l66 y66 z66 st66 hQ66
  rw [l66, y66, z66] at X66
  obtain ⟨r66, rfl, Nq66, e66, P66_0, P66_1⟩ := hQ66
  have Np67 := Fr.app Np65 Nq66
  refine Go.on st66 ?_
  show Go p.tables e below s _ _ _ (T66.setTop (mkF m 111 #[.val (.long q1), .second, .val (.long q2), .second, .val (.int p3), .val (.ref b1), .unset, .unset, .unset, .unset] [(.int r66), (.int (10 : Int32)), (.ref b1)]))
  obtain ⟨cl68, Ar68, q68, S68, M68, H68, G68⟩ := id Vb1_63
  have hin68 : ¬ ((10 : Int32) < 0 ∨ cl68.slots.size ≤ ((10 : Int32)).toNatClampNeg) := inb_of S68 ⟨by decide, by decide⟩
  obtain ⟨T68, h68, X68, e68, W68, st68⟩ := stB X66 hx hZ e66 Ar68 (j := (10 : Int32)) hin68 (g := (mkF m 111 #[.val (.long q1), .second, .val (.long q2), .second, .val (.int p3), .val (.ref b1), .unset, .unset, .unset, .unset] [(.int r66), (.int (10 : Int32)), (.ref b1)])) rfl rfl (hb hby at_111)
  rw [P66_0] at W68
  have Vb1_69 : Arv Z h68 b1 k1 .byte (16 : Int32) [(.int r6), (.int r12), (.int r18), (.int r24), (.int r30), (.int r36), (.int r42), (.int r48), (.int r54), (.int r60), (.int r66), (.int (0 : Int32)), (.int (0 : Int32)), (.int (0 : Int32)), (.int (0 : Int32)), (.int (0 : Int32))] (.int (0 : Int32)) := Arv.set Ar68 q68 S68 M68 H68 G68 P66_1 W68 10 rfl (Nat.le_of_ble_eq_true rfl)
  have Zp70 := Nat.le_trans Zp64 (Keep.of_wr W68).1
  have Np71 := Fr.snoc X68 Np67 ge2
  refine Go.on st68 ?_
  show Go p.tables e below s _ _ _ (T68.setTop (mkF m 112 #[.val (.long q1), .second, .val (.long q2), .second, .val (.int p3), .val (.ref b1), .unset, .unset, .unset, .unset] []))
  refine Go.on (fun t k => XS.aload X68.here hx rfl (hb hby at_112) rfl rfl k) ?_
  show Go p.tables e below s _ _ _ (T68.setTop (mkF m 114 #[.val (.long q1), .second, .val (.long q2), .second, .val (.int p3), .val (.ref b1), .unset, .unset, .unset, .unset] [(.ref b1)]))
  refine Go.on (fun t k => XS.bipush X68.here hx rfl (hb hby at_114) k) ?_
  show Go p.tables e below s _ _ _ (T68.setTop (mkF m 116 #[.val (.long q1), .second, .val (.long q2), .second, .val (.int p3), .val (.ref b1), .unset, .unset, .unset, .unset] [(.int (11 : Int32)), (.ref b1)]))
  refine Go.on (fun t k => XS.lloadN X68.here hx rfl (hb hby at_116) rfl k) ?_
  show Go p.tables e below s _ _ _ (T68.setTop (mkF m 117 #[.val (.long q1), .second, .val (.long q2), .second, .val (.int p3), .val (.ref b1), .unset, .unset, .unset, .unset] [(.long q2), (.int (11 : Int32)), (.ref b1)]))
  refine Go.on (fun t k => XS.iconst X68.here hx rfl (hb hby at_117) k) ?_
  show Go p.tables e below s _ _ _ (T68.setTop (mkF m 118 #[.val (.long q1), .second, .val (.long q2), .second, .val (.int p3), .val (.ref b1), .unset, .unset, .unset, .unset] [(.int (3 : Int32)), (.long q2), (.int (11 : Int32)), (.ref b1)]))
  obtain ⟨_, _, ⟨T72, L72, k72, n72⟩, -, X72, ⟨Lc72, hQ72, l72, y72, z72⟩, st72⟩ := Jvm.LawKit.callS X68 hx (y := (⟨"com/example/tidewell/tidewell/engine/FieldTextTextHashPinLaw", "b", "(JI)B"⟩ : MethodName)) hown (mvT hZ (hw _ (List.mem_of_getElem? (i := 1) rfl))) (mvT hZ (hw _ (List.mem_of_getElem? (i := 2) rfl))) (mvT hZ (hw _ (List.mem_of_getElem? (i := 3) rfl))) (mvT hZ (hw _ (List.mem_of_getElem? (i := 4) rfl))) (by decide) (backOf (W := 2) (rm1 l Z a0 hw [] q2 (3 : Int32) h68 n0 Zp70 ) hZ (hw _ (List.mem_of_getElem? (i := 4) rfl)) (hw _ (List.mem_of_getElem? (i := 3) rfl)) (by decide) (by decide)) (g := (mkF m 118 #[.val (.long q1), .second, .val (.long q2), .second, .val (.int p3), .val (.ref b1), .unset, .unset, .unset, .unset] [(.int (3 : Int32)), (.long q2), (.int (11 : Int32)), (.ref b1)])) rfl (by rw [hml]; rfl) (argsL := [(.long q2), (.int (3 : Int32))]) (rest := [(.int (11 : Int32)), (.ref b1)]) (lenOf pd__40_JI_41_B rfl) rfl (by show 2 * 0 + _ ≤ _; exact Nat.le_of_eq rfl) (hb hby at_118) (fun _ _ => ⟨rfl, e68, (by decide : ((((((((((((0 + 1) + 0) + 0) + 0) + 0) + 0) + 0) + 0) + 0) + 0) + 0) + 0) + 0 ≤ _), (by decide : ((((((((((((0 + 16) + 0) + 0) + 0) + 0) + 0) + 0) + 0) + 0) + 0) + 0) + 0) + 0 ≤ _)⟩)
  dsimp only [Pt.U, Pt.locs, Pt.cells, Pt.slots] at X72 l72 y72 z72 st72 hQ72
  rw [l72, y72, z72] at X72
  obtain ⟨r72, rfl, Nq72, e72, P72_0, P72_1⟩ := hQ72
  have Np73 := Fr.app Np71 Nq72
  refine Go.on st72 ?_
  show Go p.tables e below s _ _ _ (T72.setTop (mkF m 121 #[.val (.long q1), .second, .val (.long q2), .second, .val (.int p3), .val (.ref b1), .unset, .unset, .unset, .unset] [(.int r72), (.int (11 : Int32)), (.ref b1)]))
  obtain ⟨cl74, Ar74, q74, S74, M74, H74, G74⟩ := id Vb1_69
  have hin74 : ¬ ((11 : Int32) < 0 ∨ cl74.slots.size ≤ ((11 : Int32)).toNatClampNeg) := inb_of S74 ⟨by decide, by decide⟩
  obtain ⟨T74, h74, X74, e74, W74, st74⟩ := stB X72 hx hZ e72 Ar74 (j := (11 : Int32)) hin74 (g := (mkF m 121 #[.val (.long q1), .second, .val (.long q2), .second, .val (.int p3), .val (.ref b1), .unset, .unset, .unset, .unset] [(.int r72), (.int (11 : Int32)), (.ref b1)])) rfl rfl (hb hby at_121)
  rw [P72_0] at W74
  have Vb1_75 : Arv Z h74 b1 k1 .byte (16 : Int32) [(.int r6), (.int r12), (.int r18), (.int r24), (.int r30), (.int r36), (.int r42), (.int r48), (.int r54), (.int r60), (.int r66), (.int r72), (.int (0 : Int32)), (.int (0 : Int32)), (.int (0 : Int32)), (.int (0 : Int32))] (.int (0 : Int32)) := Arv.set Ar74 q74 S74 M74 H74 G74 P72_1 W74 11 rfl (Nat.le_of_ble_eq_true rfl)
  have Zp76 := Nat.le_trans Zp70 (Keep.of_wr W74).1
  have Np77 := Fr.snoc X74 Np73 ge2
  refine Go.on st74 ?_
  show Go p.tables e below s _ _ _ (T74.setTop (mkF m 122 #[.val (.long q1), .second, .val (.long q2), .second, .val (.int p3), .val (.ref b1), .unset, .unset, .unset, .unset] []))
  refine Go.on (fun t k => XS.aload X74.here hx rfl (hb hby at_122) rfl rfl k) ?_
  show Go p.tables e below s _ _ _ (T74.setTop (mkF m 124 #[.val (.long q1), .second, .val (.long q2), .second, .val (.int p3), .val (.ref b1), .unset, .unset, .unset, .unset] [(.ref b1)]))
  refine Go.on (fun t k => XS.bipush X74.here hx rfl (hb hby at_124) k) ?_
  show Go p.tables e below s _ _ _ (T74.setTop (mkF m 126 #[.val (.long q1), .second, .val (.long q2), .second, .val (.int p3), .val (.ref b1), .unset, .unset, .unset, .unset] [(.int (12 : Int32)), (.ref b1)]))
  refine Go.on (fun t k => XS.lloadN X74.here hx rfl (hb hby at_126) rfl k) ?_
  show Go p.tables e below s _ _ _ (T74.setTop (mkF m 127 #[.val (.long q1), .second, .val (.long q2), .second, .val (.int p3), .val (.ref b1), .unset, .unset, .unset, .unset] [(.long q2), (.int (12 : Int32)), (.ref b1)]))
  refine Go.on (fun t k => XS.iconst X74.here hx rfl (hb hby at_127) k) ?_
  show Go p.tables e below s _ _ _ (T74.setTop (mkF m 128 #[.val (.long q1), .second, .val (.long q2), .second, .val (.int p3), .val (.ref b1), .unset, .unset, .unset, .unset] [(.int (4 : Int32)), (.long q2), (.int (12 : Int32)), (.ref b1)]))
  obtain ⟨_, _, ⟨T78, L78, k78, n78⟩, -, X78, ⟨Lc78, hQ78, l78, y78, z78⟩, st78⟩ := Jvm.LawKit.callS X74 hx (y := (⟨"com/example/tidewell/tidewell/engine/FieldTextTextHashPinLaw", "b", "(JI)B"⟩ : MethodName)) hown (mvT hZ (hw _ (List.mem_of_getElem? (i := 1) rfl))) (mvT hZ (hw _ (List.mem_of_getElem? (i := 2) rfl))) (mvT hZ (hw _ (List.mem_of_getElem? (i := 3) rfl))) (mvT hZ (hw _ (List.mem_of_getElem? (i := 4) rfl))) (by decide) (backOf (W := 2) (rm1 l Z a0 hw [] q2 (4 : Int32) h74 n0 Zp76 ) hZ (hw _ (List.mem_of_getElem? (i := 4) rfl)) (hw _ (List.mem_of_getElem? (i := 3) rfl)) (by decide) (by decide)) (g := (mkF m 128 #[.val (.long q1), .second, .val (.long q2), .second, .val (.int p3), .val (.ref b1), .unset, .unset, .unset, .unset] [(.int (4 : Int32)), (.long q2), (.int (12 : Int32)), (.ref b1)])) rfl (by rw [hml]; rfl) (argsL := [(.long q2), (.int (4 : Int32))]) (rest := [(.int (12 : Int32)), (.ref b1)]) (lenOf pd__40_JI_41_B rfl) rfl (by show 2 * 0 + _ ≤ _; exact Nat.le_of_eq rfl) (hb hby at_128) (fun _ _ => ⟨rfl, e74, (by decide : (((((((((((((0 + 1) + 0) + 0) + 0) + 0) + 0) + 0) + 0) + 0) + 0) + 0) + 0) + 0) + 0 ≤ _), (by decide : (((((((((((((0 + 16) + 0) + 0) + 0) + 0) + 0) + 0) + 0) + 0) + 0) + 0) + 0) + 0) + 0 ≤ _)⟩)
  dsimp only [Pt.U, Pt.locs, Pt.cells, Pt.slots] at X78 l78 y78 z78 st78 hQ78
  rw [l78, y78, z78] at X78
  obtain ⟨r78, rfl, Nq78, e78, P78_0, P78_1⟩ := hQ78
  have Np79 := Fr.app Np77 Nq78
  refine Go.on st78 ?_
  show Go p.tables e below s _ _ _ (T78.setTop (mkF m 131 #[.val (.long q1), .second, .val (.long q2), .second, .val (.int p3), .val (.ref b1), .unset, .unset, .unset, .unset] [(.int r78), (.int (12 : Int32)), (.ref b1)]))
  obtain ⟨cl80, Ar80, q80, S80, M80, H80, G80⟩ := id Vb1_75
  have hin80 : ¬ ((12 : Int32) < 0 ∨ cl80.slots.size ≤ ((12 : Int32)).toNatClampNeg) := inb_of S80 ⟨by decide, by decide⟩
  obtain ⟨T80, h80, X80, e80, W80, st80⟩ := stB X78 hx hZ e78 Ar80 (j := (12 : Int32)) hin80 (g := (mkF m 131 #[.val (.long q1), .second, .val (.long q2), .second, .val (.int p3), .val (.ref b1), .unset, .unset, .unset, .unset] [(.int r78), (.int (12 : Int32)), (.ref b1)])) rfl rfl (hb hby at_131)
  rw [P78_0] at W80
  have Vb1_81 : Arv Z h80 b1 k1 .byte (16 : Int32) [(.int r6), (.int r12), (.int r18), (.int r24), (.int r30), (.int r36), (.int r42), (.int r48), (.int r54), (.int r60), (.int r66), (.int r72), (.int r78), (.int (0 : Int32)), (.int (0 : Int32)), (.int (0 : Int32))] (.int (0 : Int32)) := Arv.set Ar80 q80 S80 M80 H80 G80 P78_1 W80 12 rfl (Nat.le_of_ble_eq_true rfl)
  have Zp82 := Nat.le_trans Zp76 (Keep.of_wr W80).1
  have Np83 := Fr.snoc X80 Np79 ge2
  refine Go.on st80 ?_
  show Go p.tables e below s _ _ _ (T80.setTop (mkF m 132 #[.val (.long q1), .second, .val (.long q2), .second, .val (.int p3), .val (.ref b1), .unset, .unset, .unset, .unset] []))
  refine Go.on (fun t k => XS.aload X80.here hx rfl (hb hby at_132) rfl rfl k) ?_
  show Go p.tables e below s _ _ _ (T80.setTop (mkF m 134 #[.val (.long q1), .second, .val (.long q2), .second, .val (.int p3), .val (.ref b1), .unset, .unset, .unset, .unset] [(.ref b1)]))
  refine Go.on (fun t k => XS.bipush X80.here hx rfl (hb hby at_134) k) ?_
  show Go p.tables e below s _ _ _ (T80.setTop (mkF m 136 #[.val (.long q1), .second, .val (.long q2), .second, .val (.int p3), .val (.ref b1), .unset, .unset, .unset, .unset] [(.int (13 : Int32)), (.ref b1)]))
  refine Go.on (fun t k => XS.lloadN X80.here hx rfl (hb hby at_136) rfl k) ?_
  show Go p.tables e below s _ _ _ (T80.setTop (mkF m 137 #[.val (.long q1), .second, .val (.long q2), .second, .val (.int p3), .val (.ref b1), .unset, .unset, .unset, .unset] [(.long q2), (.int (13 : Int32)), (.ref b1)]))
  refine Go.on (fun t k => XS.iconst X80.here hx rfl (hb hby at_137) k) ?_
  show Go p.tables e below s _ _ _ (T80.setTop (mkF m 138 #[.val (.long q1), .second, .val (.long q2), .second, .val (.int p3), .val (.ref b1), .unset, .unset, .unset, .unset] [(.int (5 : Int32)), (.long q2), (.int (13 : Int32)), (.ref b1)]))
  obtain ⟨_, _, ⟨T84, L84, k84, n84⟩, -, X84, ⟨Lc84, hQ84, l84, y84, z84⟩, st84⟩ := Jvm.LawKit.callS X80 hx (y := (⟨"com/example/tidewell/tidewell/engine/FieldTextTextHashPinLaw", "b", "(JI)B"⟩ : MethodName)) hown (mvT hZ (hw _ (List.mem_of_getElem? (i := 1) rfl))) (mvT hZ (hw _ (List.mem_of_getElem? (i := 2) rfl))) (mvT hZ (hw _ (List.mem_of_getElem? (i := 3) rfl))) (mvT hZ (hw _ (List.mem_of_getElem? (i := 4) rfl))) (by decide) (backOf (W := 2) (rm1 l Z a0 hw [] q2 (5 : Int32) h80 n0 Zp82 ) hZ (hw _ (List.mem_of_getElem? (i := 4) rfl)) (hw _ (List.mem_of_getElem? (i := 3) rfl)) (by decide) (by decide)) (g := (mkF m 138 #[.val (.long q1), .second, .val (.long q2), .second, .val (.int p3), .val (.ref b1), .unset, .unset, .unset, .unset] [(.int (5 : Int32)), (.long q2), (.int (13 : Int32)), (.ref b1)])) rfl (by rw [hml]; rfl) (argsL := [(.long q2), (.int (5 : Int32))]) (rest := [(.int (13 : Int32)), (.ref b1)]) (lenOf pd__40_JI_41_B rfl) rfl (by show 2 * 0 + _ ≤ _; exact Nat.le_of_eq rfl) (hb hby at_138) (fun _ _ => ⟨rfl, e80, (by decide : ((((((((((((((0 + 1) + 0) + 0) + 0) + 0) + 0) + 0) + 0) + 0) + 0) + 0) + 0) + 0) + 0) + 0 ≤ _), (by decide : ((((((((((((((0 + 16) + 0) + 0) + 0) + 0) + 0) + 0) + 0) + 0) + 0) + 0) + 0) + 0) + 0) + 0 ≤ _)⟩)
  dsimp only [Pt.U, Pt.locs, Pt.cells, Pt.slots] at X84 l84 y84 z84 st84 hQ84
  rw [l84, y84, z84] at X84
  obtain ⟨r84, rfl, Nq84, e84, P84_0, P84_1⟩ := hQ84
  have Np85 := Fr.app Np83 Nq84
  refine Go.on st84 ?_
  show Go p.tables e below s _ _ _ (T84.setTop (mkF m 141 #[.val (.long q1), .second, .val (.long q2), .second, .val (.int p3), .val (.ref b1), .unset, .unset, .unset, .unset] [(.int r84), (.int (13 : Int32)), (.ref b1)]))
  obtain ⟨cl86, Ar86, q86, S86, M86, H86, G86⟩ := id Vb1_81
  have hin86 : ¬ ((13 : Int32) < 0 ∨ cl86.slots.size ≤ ((13 : Int32)).toNatClampNeg) := inb_of S86 ⟨by decide, by decide⟩
  obtain ⟨T86, h86, X86, e86, W86, st86⟩ := stB X84 hx hZ e84 Ar86 (j := (13 : Int32)) hin86 (g := (mkF m 141 #[.val (.long q1), .second, .val (.long q2), .second, .val (.int p3), .val (.ref b1), .unset, .unset, .unset, .unset] [(.int r84), (.int (13 : Int32)), (.ref b1)])) rfl rfl (hb hby at_141)
  rw [P84_0] at W86
  have Vb1_87 : Arv Z h86 b1 k1 .byte (16 : Int32) [(.int r6), (.int r12), (.int r18), (.int r24), (.int r30), (.int r36), (.int r42), (.int r48), (.int r54), (.int r60), (.int r66), (.int r72), (.int r78), (.int r84), (.int (0 : Int32)), (.int (0 : Int32))] (.int (0 : Int32)) := Arv.set Ar86 q86 S86 M86 H86 G86 P84_1 W86 13 rfl (Nat.le_of_ble_eq_true rfl)
  have Zp88 := Nat.le_trans Zp82 (Keep.of_wr W86).1
  have Np89 := Fr.snoc X86 Np85 ge2
  refine Go.on st86 ?_
  show Go p.tables e below s _ _ _ (T86.setTop (mkF m 142 #[.val (.long q1), .second, .val (.long q2), .second, .val (.int p3), .val (.ref b1), .unset, .unset, .unset, .unset] []))
  refine Go.on (fun t k => XS.aload X86.here hx rfl (hb hby at_142) rfl rfl k) ?_
  show Go p.tables e below s _ _ _ (T86.setTop (mkF m 144 #[.val (.long q1), .second, .val (.long q2), .second, .val (.int p3), .val (.ref b1), .unset, .unset, .unset, .unset] [(.ref b1)]))
  refine Go.on (fun t k => XS.bipush X86.here hx rfl (hb hby at_144) k) ?_
  show Go p.tables e below s _ _ _ (T86.setTop (mkF m 146 #[.val (.long q1), .second, .val (.long q2), .second, .val (.int p3), .val (.ref b1), .unset, .unset, .unset, .unset] [(.int (14 : Int32)), (.ref b1)]))
  refine Go.on (fun t k => XS.lloadN X86.here hx rfl (hb hby at_146) rfl k) ?_
  show Go p.tables e below s _ _ _ (T86.setTop (mkF m 147 #[.val (.long q1), .second, .val (.long q2), .second, .val (.int p3), .val (.ref b1), .unset, .unset, .unset, .unset] [(.long q2), (.int (14 : Int32)), (.ref b1)]))
  refine Go.on (fun t k => XS.bipush X86.here hx rfl (hb hby at_147) k) ?_
  show Go p.tables e below s _ _ _ (T86.setTop (mkF m 149 #[.val (.long q1), .second, .val (.long q2), .second, .val (.int p3), .val (.ref b1), .unset, .unset, .unset, .unset] [(.int (6 : Int32)), (.long q2), (.int (14 : Int32)), (.ref b1)]))
  obtain ⟨_, _, ⟨T90, L90, k90, n90⟩, -, X90, ⟨Lc90, hQ90, l90, y90, z90⟩, st90⟩ := Jvm.LawKit.callS X86 hx (y := (⟨"com/example/tidewell/tidewell/engine/FieldTextTextHashPinLaw", "b", "(JI)B"⟩ : MethodName)) hown (mvT hZ (hw _ (List.mem_of_getElem? (i := 1) rfl))) (mvT hZ (hw _ (List.mem_of_getElem? (i := 2) rfl))) (mvT hZ (hw _ (List.mem_of_getElem? (i := 3) rfl))) (mvT hZ (hw _ (List.mem_of_getElem? (i := 4) rfl))) (by decide) (backOf (W := 2) (rm1 l Z a0 hw [] q2 (6 : Int32) h86 n0 Zp88 ) hZ (hw _ (List.mem_of_getElem? (i := 4) rfl)) (hw _ (List.mem_of_getElem? (i := 3) rfl)) (by decide) (by decide)) (g := (mkF m 149 #[.val (.long q1), .second, .val (.long q2), .second, .val (.int p3), .val (.ref b1), .unset, .unset, .unset, .unset] [(.int (6 : Int32)), (.long q2), (.int (14 : Int32)), (.ref b1)])) rfl (by rw [hml]; rfl) (argsL := [(.long q2), (.int (6 : Int32))]) (rest := [(.int (14 : Int32)), (.ref b1)]) (lenOf pd__40_JI_41_B rfl) rfl (by show 2 * 0 + _ ≤ _; exact Nat.le_of_eq rfl) (hb hby at_149) (fun _ _ => ⟨rfl, e86, (by decide : (((((((((((((((0 + 1) + 0) + 0) + 0) + 0) + 0) + 0) + 0) + 0) + 0) + 0) + 0) + 0) + 0) + 0) + 0 ≤ _), (by decide : (((((((((((((((0 + 16) + 0) + 0) + 0) + 0) + 0) + 0) + 0) + 0) + 0) + 0) + 0) + 0) + 0) + 0) + 0 ≤ _)⟩)
  dsimp only [Pt.U, Pt.locs, Pt.cells, Pt.slots] at X90 l90 y90 z90 st90 hQ90
  rw [l90, y90, z90] at X90
  obtain ⟨r90, rfl, Nq90, e90, P90_0, P90_1⟩ := hQ90
  have Np91 := Fr.app Np89 Nq90
  refine Go.on st90 ?_
  show Go p.tables e below s _ _ _ (T90.setTop (mkF m 152 #[.val (.long q1), .second, .val (.long q2), .second, .val (.int p3), .val (.ref b1), .unset, .unset, .unset, .unset] [(.int r90), (.int (14 : Int32)), (.ref b1)]))
  obtain ⟨cl92, Ar92, q92, S92, M92, H92, G92⟩ := id Vb1_87
  have hin92 : ¬ ((14 : Int32) < 0 ∨ cl92.slots.size ≤ ((14 : Int32)).toNatClampNeg) := inb_of S92 ⟨by decide, by decide⟩
  obtain ⟨T92, h92, X92, e92, W92, st92⟩ := stB X90 hx hZ e90 Ar92 (j := (14 : Int32)) hin92 (g := (mkF m 152 #[.val (.long q1), .second, .val (.long q2), .second, .val (.int p3), .val (.ref b1), .unset, .unset, .unset, .unset] [(.int r90), (.int (14 : Int32)), (.ref b1)])) rfl rfl (hb hby at_152)
  rw [P90_0] at W92
  have Vb1_93 : Arv Z h92 b1 k1 .byte (16 : Int32) [(.int r6), (.int r12), (.int r18), (.int r24), (.int r30), (.int r36), (.int r42), (.int r48), (.int r54), (.int r60), (.int r66), (.int r72), (.int r78), (.int r84), (.int r90), (.int (0 : Int32))] (.int (0 : Int32)) := Arv.set Ar92 q92 S92 M92 H92 G92 P90_1 W92 14 rfl (Nat.le_of_ble_eq_true rfl)
  have Zp94 := Nat.le_trans Zp88 (Keep.of_wr W92).1
  have Np95 := Fr.snoc X92 Np91 ge2
  refine Go.on st92 ?_
  show Go p.tables e below s _ _ _ (T92.setTop (mkF m 153 #[.val (.long q1), .second, .val (.long q2), .second, .val (.int p3), .val (.ref b1), .unset, .unset, .unset, .unset] []))
  refine Go.on (fun t k => XS.aload X92.here hx rfl (hb hby at_153) rfl rfl k) ?_
  show Go p.tables e below s _ _ _ (T92.setTop (mkF m 155 #[.val (.long q1), .second, .val (.long q2), .second, .val (.int p3), .val (.ref b1), .unset, .unset, .unset, .unset] [(.ref b1)]))
  refine Go.on (fun t k => XS.bipush X92.here hx rfl (hb hby at_155) k) ?_
  show Go p.tables e below s _ _ _ (T92.setTop (mkF m 157 #[.val (.long q1), .second, .val (.long q2), .second, .val (.int p3), .val (.ref b1), .unset, .unset, .unset, .unset] [(.int (15 : Int32)), (.ref b1)]))
  refine Go.on (fun t k => XS.lloadN X92.here hx rfl (hb hby at_157) rfl k) ?_
  show Go p.tables e below s _ _ _ (T92.setTop (mkF m 158 #[.val (.long q1), .second, .val (.long q2), .second, .val (.int p3), .val (.ref b1), .unset, .unset, .unset, .unset] [(.long q2), (.int (15 : Int32)), (.ref b1)]))
  refine Go.on (fun t k => XS.bipush X92.here hx rfl (hb hby at_158) k) ?_
  show Go p.tables e below s _ _ _ (T92.setTop (mkF m 160 #[.val (.long q1), .second, .val (.long q2), .second, .val (.int p3), .val (.ref b1), .unset, .unset, .unset, .unset] [(.int (7 : Int32)), (.long q2), (.int (15 : Int32)), (.ref b1)]))
  obtain ⟨_, _, ⟨T96, L96, k96, n96⟩, -, X96, ⟨Lc96, hQ96, l96, y96, z96⟩, st96⟩ := Jvm.LawKit.callS X92 hx (y := (⟨"com/example/tidewell/tidewell/engine/FieldTextTextHashPinLaw", "b", "(JI)B"⟩ : MethodName)) hown (mvT hZ (hw _ (List.mem_of_getElem? (i := 1) rfl))) (mvT hZ (hw _ (List.mem_of_getElem? (i := 2) rfl))) (mvT hZ (hw _ (List.mem_of_getElem? (i := 3) rfl))) (mvT hZ (hw _ (List.mem_of_getElem? (i := 4) rfl))) (by decide) (backOf (W := 2) (rm1 l Z a0 hw [] q2 (7 : Int32) h92 n0 Zp94 ) hZ (hw _ (List.mem_of_getElem? (i := 4) rfl)) (hw _ (List.mem_of_getElem? (i := 3) rfl)) (by decide) (by decide)) (g := (mkF m 160 #[.val (.long q1), .second, .val (.long q2), .second, .val (.int p3), .val (.ref b1), .unset, .unset, .unset, .unset] [(.int (7 : Int32)), (.long q2), (.int (15 : Int32)), (.ref b1)])) rfl (by rw [hml]; rfl) (argsL := [(.long q2), (.int (7 : Int32))]) (rest := [(.int (15 : Int32)), (.ref b1)]) (lenOf pd__40_JI_41_B rfl) rfl (by show 2 * 0 + _ ≤ _; exact Nat.le_of_eq rfl) (hb hby at_160) (fun _ _ => ⟨rfl, e92, (by decide : ((((((((((((((((0 + 1) + 0) + 0) + 0) + 0) + 0) + 0) + 0) + 0) + 0) + 0) + 0) + 0) + 0) + 0) + 0) + 0 ≤ _), (by decide : ((((((((((((((((0 + 16) + 0) + 0) + 0) + 0) + 0) + 0) + 0) + 0) + 0) + 0) + 0) + 0) + 0) + 0) + 0) + 0 ≤ _)⟩)
  dsimp only [Pt.U, Pt.locs, Pt.cells, Pt.slots] at X96 l96 y96 z96 st96 hQ96
  rw [l96, y96, z96] at X96
  obtain ⟨r96, rfl, Nq96, e96, P96_0, P96_1⟩ := hQ96
  have Np97 := Fr.app Np95 Nq96
  refine Go.on st96 ?_
  show Go p.tables e below s _ _ _ (T96.setTop (mkF m 163 #[.val (.long q1), .second, .val (.long q2), .second, .val (.int p3), .val (.ref b1), .unset, .unset, .unset, .unset] [(.int r96), (.int (15 : Int32)), (.ref b1)]))
  obtain ⟨cl98, Ar98, q98, S98, M98, H98, G98⟩ := id Vb1_93
  have hin98 : ¬ ((15 : Int32) < 0 ∨ cl98.slots.size ≤ ((15 : Int32)).toNatClampNeg) := inb_of S98 ⟨by decide, by decide⟩
  obtain ⟨T98, h98, X98, e98, W98, st98⟩ := stB X96 hx hZ e96 Ar98 (j := (15 : Int32)) hin98 (g := (mkF m 163 #[.val (.long q1), .second, .val (.long q2), .second, .val (.int p3), .val (.ref b1), .unset, .unset, .unset, .unset] [(.int r96), (.int (15 : Int32)), (.ref b1)])) rfl rfl (hb hby at_163)
  rw [P96_0] at W98
  have Vb1_99 : Arv Z h98 b1 k1 .byte (16 : Int32) [(.int r6), (.int r12), (.int r18), (.int r24), (.int r30), (.int r36), (.int r42), (.int r48), (.int r54), (.int r60), (.int r66), (.int r72), (.int r78), (.int r84), (.int r90), (.int r96)] (.int (0 : Int32)) := Arv.set Ar98 q98 S98 M98 H98 G98 P96_1 W98 15 rfl (Nat.le_of_ble_eq_true rfl)
  have Zp100 := Nat.le_trans Zp94 (Keep.of_wr W98).1
  have Np101 := Fr.snoc X98 Np97 ge2
  refine Go.on st98 ?_
  show Go p.tables e below s _ _ _ (T98.setTop (mkF m 164 #[.val (.long q1), .second, .val (.long q2), .second, .val (.int p3), .val (.ref b1), .unset, .unset, .unset, .unset] []))
  refine Go.on (fun t k => XS.iload X98.here hx rfl (hb hby at_164) rfl k) ?_
  show Go p.tables e below s _ _ _ (T98.setTop (mkF m 166 #[.val (.long q1), .second, .val (.long q2), .second, .val (.int p3), .val (.ref b1), .unset, .unset, .unset, .unset] [(.int p3)]))
  refine Go.on (fun t k => XS.iconst X98.here hx rfl (hb hby at_166) k) ?_
  show Go p.tables e below s _ _ _ (T98.setTop (mkF m 167 #[.val (.long q1), .second, .val (.long q2), .second, .val (.int p3), .val (.ref b1), .unset, .unset, .unset, .unset] [(.int (3 : Int32)), (.int p3)]))
  refine Go.on (fun t k => XS.iand X98.here hx rfl (hb hby at_167) rfl k) ?_
  show Go p.tables e below s _ _ _ (T98.setTop (mkF m 168 #[.val (.long q1), .second, .val (.long q2), .second, .val (.int p3), .val (.ref b1), .unset, .unset, .unset, .unset] [(.int (p3 &&& (3 : Int32)))]))
  obtain ⟨ds, hds⟩ : ∃ z : List Int32, z = [r6, r12, r18, r24, r30, r36, r42, r48, r54, r60, r66, r72, r78, r84, r90, r96] := ⟨_, rfl⟩
  have Vd_102 : Arv Z h98 b1 k1 .byte (16 : Int32) (ds.map Value.int) (.int (0 : Int32)) := by rw [hds]; exact Vb1_99
  obtain ⟨oo, ho, eo⟩ := own_off p3
  rw [eo]
  show Go p.tables e below s _ _ _ (T98.setTop (mkF m 168 #[.val (.long q1), .second, .val (.long q2), .second, .val (.int p3), .val (.ref b1), .unset, .unset, .unset, .unset] [(.int (Int32.ofNat oo))]))
  refine Go.on (fun t k => XS.istore X98.here hx rfl (hb hby at_168) rfl (l' := #[.val (.long q1), .second, .val (.long q2), .second, .val (.int p3), .val (.ref b1), .val (.int (Int32.ofNat oo)), .unset, .unset, .unset]) rfl k) ?_
  show Go p.tables e below s _ _ _ (T98.setTop (mkF m 170 #[.val (.long q1), .second, .val (.long q2), .second, .val (.int p3), .val (.ref b1), .val (.int (Int32.ofNat oo)), .unset, .unset, .unset] []))
  refine Go.on (fun t k => XS.iload X98.here hx rfl (hb hby at_170) rfl k) ?_
  show Go p.tables e below s _ _ _ (T98.setTop (mkF m 172 #[.val (.long q1), .second, .val (.long q2), .second, .val (.int p3), .val (.ref b1), .val (.int (Int32.ofNat oo)), .unset, .unset, .unset] [(.int p3)]))
  refine Go.on (fun t k => XS.iconst X98.here hx rfl (hb hby at_172) k) ?_
  show Go p.tables e below s _ _ _ (T98.setTop (mkF m 173 #[.val (.long q1), .second, .val (.long q2), .second, .val (.int p3), .val (.ref b1), .val (.int (Int32.ofNat oo)), .unset, .unset, .unset] [(.int (2 : Int32)), (.int p3)]))
  refine Go.on (fun t k => XS.iushr X98.here hx rfl (hb hby at_173) rfl k) ?_
  show Go p.tables e below s _ _ _ (T98.setTop (mkF m 174 #[.val (.long q1), .second, .val (.long q2), .second, .val (.int p3), .val (.ref b1), .val (.int (Int32.ofNat oo)), .unset, .unset, .unset] [(.int ((p3.toUInt32 >>> ((2 : Int32) &&& 31).toUInt32).toInt32))]))
  refine Go.on (fun t k => XS.bipush X98.here hx rfl (hb hby at_174) k) ?_
  show Go p.tables e below s _ _ _ (T98.setTop (mkF m 176 #[.val (.long q1), .second, .val (.long q2), .second, .val (.int p3), .val (.ref b1), .val (.int (Int32.ofNat oo)), .unset, .unset, .unset] [(.int (13 : Int32)), (.int ((p3.toUInt32 >>> ((2 : Int32) &&& 31).toUInt32).toInt32))]))
  refine Go.on (fun t k => Jvm.RoadKit.iremM X98 hx rfl (hb hby at_176) rfl (by decide) k) ?_
  show Go p.tables e below s _ _ _ (T98.setTop (mkF m 177 #[.val (.long q1), .second, .val (.long q2), .second, .val (.int p3), .val (.ref b1), .val (.int (Int32.ofNat oo)), .unset, .unset, .unset] [(.int (((p3.toUInt32 >>> ((2 : Int32) &&& 31).toUInt32).toInt32) % (13 : Int32)))]))
  obtain ⟨n, hn, en⟩ := own_len p3
  rw [en]
  show Go p.tables e below s _ _ _ (T98.setTop (mkF m 177 #[.val (.long q1), .second, .val (.long q2), .second, .val (.int p3), .val (.ref b1), .val (.int (Int32.ofNat oo)), .unset, .unset, .unset] [(.int (Int32.ofNat n))]))
  refine Go.on (fun t k => XS.istore X98.here hx rfl (hb hby at_177) rfl (l' := #[.val (.long q1), .second, .val (.long q2), .second, .val (.int p3), .val (.ref b1), .val (.int (Int32.ofNat oo)), .val (.int (Int32.ofNat n)), .unset, .unset]) rfl k) ?_
  show Go p.tables e below s _ _ _ (T98.setTop (mkF m 179 #[.val (.long q1), .second, .val (.long q2), .second, .val (.int p3), .val (.ref b1), .val (.int (Int32.ofNat oo)), .val (.int (Int32.ofNat n)), .unset, .unset] []))
  refine Go.on (fun t k => XS.iconst X98.here hx rfl (hb hby at_179) k) ?_
  show Go p.tables e below s _ _ _ (T98.setTop (mkF m 180 #[.val (.long q1), .second, .val (.long q2), .second, .val (.int p3), .val (.ref b1), .val (.int (Int32.ofNat oo)), .val (.int (Int32.ofNat n)), .unset, .unset] [(.int (0 : Int32))]))
  show Go p.tables e below s _ _ _ (T98.setTop (mkF m 180 #[.val (.long q1), .second, .val (.long q2), .second, .val (.int p3), .val (.ref b1), .val (.int (Int32.ofNat oo)), .val (.int (Int32.ofNat n)), .unset, .unset] [(.int (own_fold ds oo n 0))]))
  refine Go.on (fun t k => XS.istore X98.here hx rfl (hb hby at_180) rfl (l' := #[.val (.long q1), .second, .val (.long q2), .second, .val (.int p3), .val (.ref b1), .val (.int (Int32.ofNat oo)), .val (.int (Int32.ofNat n)), .val (.int (own_fold ds oo n 0)), .unset]) rfl k) ?_
  show Go p.tables e below s _ _ _ (T98.setTop (mkF m 182 #[.val (.long q1), .second, .val (.long q2), .second, .val (.int p3), .val (.ref b1), .val (.int (Int32.ofNat oo)), .val (.int (Int32.ofNat n)), .val (.int (own_fold ds oo n 0)), .unset] []))
  refine Go.on (fun t k => XS.iload X98.here hx rfl (hb hby at_182) rfl k) ?_
  show Go p.tables e below s _ _ _ (T98.setTop (mkF m 184 #[.val (.long q1), .second, .val (.long q2), .second, .val (.int p3), .val (.ref b1), .val (.int (Int32.ofNat oo)), .val (.int (Int32.ofNat n)), .val (.int (own_fold ds oo n 0)), .unset] [(.int (own_fold ds oo n 0))]))
  refine Go.on (fun t k => XS.aload X98.here hx rfl (hb hby at_184) rfl rfl k) ?_
  show Go p.tables e below s _ _ _ (T98.setTop (mkF m 186 #[.val (.long q1), .second, .val (.long q2), .second, .val (.int p3), .val (.ref b1), .val (.int (Int32.ofNat oo)), .val (.int (Int32.ofNat n)), .val (.int (own_fold ds oo n 0)), .unset] [(.ref b1), (.int (own_fold ds oo n 0))]))
  refine Go.on (fun t k => XS.iload X98.here hx rfl (hb hby at_186) rfl k) ?_
  show Go p.tables e below s _ _ _ (T98.setTop (mkF m 188 #[.val (.long q1), .second, .val (.long q2), .second, .val (.int p3), .val (.ref b1), .val (.int (Int32.ofNat oo)), .val (.int (Int32.ofNat n)), .val (.int (own_fold ds oo n 0)), .unset] [(.int (Int32.ofNat oo)), (.ref b1), (.int (own_fold ds oo n 0))]))
  refine Go.on (fun t k => XS.iload X98.here hx rfl (hb hby at_188) rfl k) ?_
  show Go p.tables e below s _ _ _ (T98.setTop (mkF m 190 #[.val (.long q1), .second, .val (.long q2), .second, .val (.int p3), .val (.ref b1), .val (.int (Int32.ofNat oo)), .val (.int (Int32.ofNat n)), .val (.int (own_fold ds oo n 0)), .unset] [(.int (Int32.ofNat n)), (.int (Int32.ofNat oo)), (.ref b1), (.int (own_fold ds oo n 0))]))
  refine Go.on (fun t k => XS.iconst X98.here hx rfl (hb hby at_190) k) ?_
  show Go p.tables e below s _ _ _ (T98.setTop (mkF m 191 #[.val (.long q1), .second, .val (.long q2), .second, .val (.int p3), .val (.ref b1), .val (.int (Int32.ofNat oo)), .val (.int (Int32.ofNat n)), .val (.int (own_fold ds oo n 0)), .unset] [(.int (0 : Int32)), (.int (Int32.ofNat n)), (.int (Int32.ofNat oo)), (.ref b1), (.int (own_fold ds oo n 0))]))
  obtain ⟨_, _, ⟨T103, L103, k103, n103⟩, -, X103, ⟨Lc103, hQ103, l103, y103, z103⟩, st103⟩ := Jvm.LawKit.callS X98 hx (y := (⟨"com/example/tidewell/tidewell/engine/FieldTextTextHashPinLaw", "step", "(I[BIII)I"⟩ : MethodName)) hown (mvT hZ (hw _ (List.mem_of_getElem? (i := 6) rfl))) (mvT hZ (hw _ (List.mem_of_getElem? (i := 7) rfl))) (mvT hZ (hw _ (List.mem_of_getElem? (i := 3) rfl))) (mvT hZ (hw _ (List.mem_of_getElem? (i := 8) rfl))) (by decide) (backOf (W := 0) (rm2 l Z a0 hw [] (own_fold ds oo n 0) b1 (Int32.ofNat oo) (Int32.ofNat n) (0 : Int32) k1 ds oo n 0 h98 n0 Zp100 Vd_102 rfl rfl rfl ⟨ho, hn, by omega⟩) hZ (hw _ (List.mem_of_getElem? (i := 8) rfl)) (hw _ (List.mem_of_getElem? (i := 3) rfl)) (by decide) (by decide)) (g := (mkF m 191 #[.val (.long q1), .second, .val (.long q2), .second, .val (.int p3), .val (.ref b1), .val (.int (Int32.ofNat oo)), .val (.int (Int32.ofNat n)), .val (.int (own_fold ds oo n 0)), .unset] [(.int (0 : Int32)), (.int (Int32.ofNat n)), (.int (Int32.ofNat oo)), (.ref b1), (.int (own_fold ds oo n 0))])) rfl (by rw [hml]; rfl) (argsL := [(.int (own_fold ds oo n 0)), (.ref b1), (.int (Int32.ofNat oo)), (.int (Int32.ofNat n)), (.int (0 : Int32))]) (rest := []) (lenOf pd__40_I_91_BIII_41_I rfl) rfl (by show 2 * 0 + _ ≤ _; exact Nat.le_of_eq rfl) (hb hby at_191) (fun _ _ => ⟨rfl, e98, (by decide : (((((((((((((((((0 + 1) + 0) + 0) + 0) + 0) + 0) + 0) + 0) + 0) + 0) + 0) + 0) + 0) + 0) + 0) + 0) + 0) + 0 ≤ _), (by decide : (((((((((((((((((0 + 16) + 0) + 0) + 0) + 0) + 0) + 0) + 0) + 0) + 0) + 0) + 0) + 0) + 0) + 0) + 0) + 0) + 0 ≤ _)⟩)
  dsimp only [Pt.U, Pt.locs, Pt.cells, Pt.slots] at X103 l103 y103 z103 st103 hQ103
  rw [l103, y103, z103] at X103
  obtain ⟨rfl, Nq103, e103⟩ := hQ103
  have Np104 := Fr.app Np101 Nq103
  refine Go.on st103 ?_
  show Go p.tables e below s _ _ _ (T103.setTop (mkF m 194 #[.val (.long q1), .second, .val (.long q2), .second, .val (.int p3), .val (.ref b1), .val (.int (Int32.ofNat oo)), .val (.int (Int32.ofNat n)), .val (.int (own_fold ds oo n 0)), .unset] [(.int (own_fold ds oo n 1))]))
  refine Go.on (fun t k => XS.istore X103.here hx rfl (hb hby at_194) rfl (l' := #[.val (.long q1), .second, .val (.long q2), .second, .val (.int p3), .val (.ref b1), .val (.int (Int32.ofNat oo)), .val (.int (Int32.ofNat n)), .val (.int (own_fold ds oo n 1)), .unset]) rfl k) ?_
  show Go p.tables e below s _ _ _ (T103.setTop (mkF m 196 #[.val (.long q1), .second, .val (.long q2), .second, .val (.int p3), .val (.ref b1), .val (.int (Int32.ofNat oo)), .val (.int (Int32.ofNat n)), .val (.int (own_fold ds oo n 1)), .unset] []))
  refine Go.on (fun t k => XS.iload X103.here hx rfl (hb hby at_196) rfl k) ?_
  show Go p.tables e below s _ _ _ (T103.setTop (mkF m 198 #[.val (.long q1), .second, .val (.long q2), .second, .val (.int p3), .val (.ref b1), .val (.int (Int32.ofNat oo)), .val (.int (Int32.ofNat n)), .val (.int (own_fold ds oo n 1)), .unset] [(.int (own_fold ds oo n 1))]))
  refine Go.on (fun t k => XS.aload X103.here hx rfl (hb hby at_198) rfl rfl k) ?_
  show Go p.tables e below s _ _ _ (T103.setTop (mkF m 200 #[.val (.long q1), .second, .val (.long q2), .second, .val (.int p3), .val (.ref b1), .val (.int (Int32.ofNat oo)), .val (.int (Int32.ofNat n)), .val (.int (own_fold ds oo n 1)), .unset] [(.ref b1), (.int (own_fold ds oo n 1))]))
  refine Go.on (fun t k => XS.iload X103.here hx rfl (hb hby at_200) rfl k) ?_
  show Go p.tables e below s _ _ _ (T103.setTop (mkF m 202 #[.val (.long q1), .second, .val (.long q2), .second, .val (.int p3), .val (.ref b1), .val (.int (Int32.ofNat oo)), .val (.int (Int32.ofNat n)), .val (.int (own_fold ds oo n 1)), .unset] [(.int (Int32.ofNat oo)), (.ref b1), (.int (own_fold ds oo n 1))]))
  refine Go.on (fun t k => XS.iload X103.here hx rfl (hb hby at_202) rfl k) ?_
  show Go p.tables e below s _ _ _ (T103.setTop (mkF m 204 #[.val (.long q1), .second, .val (.long q2), .second, .val (.int p3), .val (.ref b1), .val (.int (Int32.ofNat oo)), .val (.int (Int32.ofNat n)), .val (.int (own_fold ds oo n 1)), .unset] [(.int (Int32.ofNat n)), (.int (Int32.ofNat oo)), (.ref b1), (.int (own_fold ds oo n 1))]))
  refine Go.on (fun t k => XS.iconst X103.here hx rfl (hb hby at_204) k) ?_
  show Go p.tables e below s _ _ _ (T103.setTop (mkF m 205 #[.val (.long q1), .second, .val (.long q2), .second, .val (.int p3), .val (.ref b1), .val (.int (Int32.ofNat oo)), .val (.int (Int32.ofNat n)), .val (.int (own_fold ds oo n 1)), .unset] [(.int (1 : Int32)), (.int (Int32.ofNat n)), (.int (Int32.ofNat oo)), (.ref b1), (.int (own_fold ds oo n 1))]))
  obtain ⟨_, _, ⟨T105, L105, k105, n105⟩, -, X105, ⟨Lc105, hQ105, l105, y105, z105⟩, st105⟩ := Jvm.LawKit.callS X103 hx (y := (⟨"com/example/tidewell/tidewell/engine/FieldTextTextHashPinLaw", "step", "(I[BIII)I"⟩ : MethodName)) hown (mvT hZ (hw _ (List.mem_of_getElem? (i := 6) rfl))) (mvT hZ (hw _ (List.mem_of_getElem? (i := 7) rfl))) (mvT hZ (hw _ (List.mem_of_getElem? (i := 3) rfl))) (mvT hZ (hw _ (List.mem_of_getElem? (i := 8) rfl))) (by decide) (backOf (W := 0) (rm2 l Z a0 hw [] (own_fold ds oo n 1) b1 (Int32.ofNat oo) (Int32.ofNat n) (1 : Int32) k1 ds oo n 1 h98 n0 Zp100 Vd_102 rfl rfl rfl ⟨ho, hn, by omega⟩) hZ (hw _ (List.mem_of_getElem? (i := 8) rfl)) (hw _ (List.mem_of_getElem? (i := 3) rfl)) (by decide) (by decide)) (g := (mkF m 205 #[.val (.long q1), .second, .val (.long q2), .second, .val (.int p3), .val (.ref b1), .val (.int (Int32.ofNat oo)), .val (.int (Int32.ofNat n)), .val (.int (own_fold ds oo n 1)), .unset] [(.int (1 : Int32)), (.int (Int32.ofNat n)), (.int (Int32.ofNat oo)), (.ref b1), (.int (own_fold ds oo n 1))])) rfl (by rw [hml]; rfl) (argsL := [(.int (own_fold ds oo n 1)), (.ref b1), (.int (Int32.ofNat oo)), (.int (Int32.ofNat n)), (.int (1 : Int32))]) (rest := []) (lenOf pd__40_I_91_BIII_41_I rfl) rfl (by show 2 * 0 + _ ≤ _; exact Nat.le_of_eq rfl) (hb hby at_205) (fun _ _ => ⟨rfl, e103, (by decide : ((((((((((((((((((0 + 1) + 0) + 0) + 0) + 0) + 0) + 0) + 0) + 0) + 0) + 0) + 0) + 0) + 0) + 0) + 0) + 0) + 0) + 0 ≤ _), (by decide : ((((((((((((((((((0 + 16) + 0) + 0) + 0) + 0) + 0) + 0) + 0) + 0) + 0) + 0) + 0) + 0) + 0) + 0) + 0) + 0) + 0) + 0 ≤ _)⟩)
  dsimp only [Pt.U, Pt.locs, Pt.cells, Pt.slots] at X105 l105 y105 z105 st105 hQ105
  rw [l105, y105, z105] at X105
  obtain ⟨rfl, Nq105, e105⟩ := hQ105
  have Np106 := Fr.app Np104 Nq105
  refine Go.on st105 ?_
  show Go p.tables e below s _ _ _ (T105.setTop (mkF m 208 #[.val (.long q1), .second, .val (.long q2), .second, .val (.int p3), .val (.ref b1), .val (.int (Int32.ofNat oo)), .val (.int (Int32.ofNat n)), .val (.int (own_fold ds oo n 1)), .unset] [(.int (own_fold ds oo n 2))]))
  refine Go.on (fun t k => XS.istore X105.here hx rfl (hb hby at_208) rfl (l' := #[.val (.long q1), .second, .val (.long q2), .second, .val (.int p3), .val (.ref b1), .val (.int (Int32.ofNat oo)), .val (.int (Int32.ofNat n)), .val (.int (own_fold ds oo n 2)), .unset]) rfl k) ?_
  show Go p.tables e below s _ _ _ (T105.setTop (mkF m 210 #[.val (.long q1), .second, .val (.long q2), .second, .val (.int p3), .val (.ref b1), .val (.int (Int32.ofNat oo)), .val (.int (Int32.ofNat n)), .val (.int (own_fold ds oo n 2)), .unset] []))
  refine Go.on (fun t k => XS.iload X105.here hx rfl (hb hby at_210) rfl k) ?_
  show Go p.tables e below s _ _ _ (T105.setTop (mkF m 212 #[.val (.long q1), .second, .val (.long q2), .second, .val (.int p3), .val (.ref b1), .val (.int (Int32.ofNat oo)), .val (.int (Int32.ofNat n)), .val (.int (own_fold ds oo n 2)), .unset] [(.int (own_fold ds oo n 2))]))
  refine Go.on (fun t k => XS.aload X105.here hx rfl (hb hby at_212) rfl rfl k) ?_
  show Go p.tables e below s _ _ _ (T105.setTop (mkF m 214 #[.val (.long q1), .second, .val (.long q2), .second, .val (.int p3), .val (.ref b1), .val (.int (Int32.ofNat oo)), .val (.int (Int32.ofNat n)), .val (.int (own_fold ds oo n 2)), .unset] [(.ref b1), (.int (own_fold ds oo n 2))]))
  refine Go.on (fun t k => XS.iload X105.here hx rfl (hb hby at_214) rfl k) ?_
  show Go p.tables e below s _ _ _ (T105.setTop (mkF m 216 #[.val (.long q1), .second, .val (.long q2), .second, .val (.int p3), .val (.ref b1), .val (.int (Int32.ofNat oo)), .val (.int (Int32.ofNat n)), .val (.int (own_fold ds oo n 2)), .unset] [(.int (Int32.ofNat oo)), (.ref b1), (.int (own_fold ds oo n 2))]))
  refine Go.on (fun t k => XS.iload X105.here hx rfl (hb hby at_216) rfl k) ?_
  show Go p.tables e below s _ _ _ (T105.setTop (mkF m 218 #[.val (.long q1), .second, .val (.long q2), .second, .val (.int p3), .val (.ref b1), .val (.int (Int32.ofNat oo)), .val (.int (Int32.ofNat n)), .val (.int (own_fold ds oo n 2)), .unset] [(.int (Int32.ofNat n)), (.int (Int32.ofNat oo)), (.ref b1), (.int (own_fold ds oo n 2))]))
  refine Go.on (fun t k => XS.iconst X105.here hx rfl (hb hby at_218) k) ?_
  show Go p.tables e below s _ _ _ (T105.setTop (mkF m 219 #[.val (.long q1), .second, .val (.long q2), .second, .val (.int p3), .val (.ref b1), .val (.int (Int32.ofNat oo)), .val (.int (Int32.ofNat n)), .val (.int (own_fold ds oo n 2)), .unset] [(.int (2 : Int32)), (.int (Int32.ofNat n)), (.int (Int32.ofNat oo)), (.ref b1), (.int (own_fold ds oo n 2))]))
  obtain ⟨_, _, ⟨T107, L107, k107, n107⟩, -, X107, ⟨Lc107, hQ107, l107, y107, z107⟩, st107⟩ := Jvm.LawKit.callS X105 hx (y := (⟨"com/example/tidewell/tidewell/engine/FieldTextTextHashPinLaw", "step", "(I[BIII)I"⟩ : MethodName)) hown (mvT hZ (hw _ (List.mem_of_getElem? (i := 6) rfl))) (mvT hZ (hw _ (List.mem_of_getElem? (i := 7) rfl))) (mvT hZ (hw _ (List.mem_of_getElem? (i := 3) rfl))) (mvT hZ (hw _ (List.mem_of_getElem? (i := 8) rfl))) (by decide) (backOf (W := 0) (rm2 l Z a0 hw [] (own_fold ds oo n 2) b1 (Int32.ofNat oo) (Int32.ofNat n) (2 : Int32) k1 ds oo n 2 h98 n0 Zp100 Vd_102 rfl rfl rfl ⟨ho, hn, by omega⟩) hZ (hw _ (List.mem_of_getElem? (i := 8) rfl)) (hw _ (List.mem_of_getElem? (i := 3) rfl)) (by decide) (by decide)) (g := (mkF m 219 #[.val (.long q1), .second, .val (.long q2), .second, .val (.int p3), .val (.ref b1), .val (.int (Int32.ofNat oo)), .val (.int (Int32.ofNat n)), .val (.int (own_fold ds oo n 2)), .unset] [(.int (2 : Int32)), (.int (Int32.ofNat n)), (.int (Int32.ofNat oo)), (.ref b1), (.int (own_fold ds oo n 2))])) rfl (by rw [hml]; rfl) (argsL := [(.int (own_fold ds oo n 2)), (.ref b1), (.int (Int32.ofNat oo)), (.int (Int32.ofNat n)), (.int (2 : Int32))]) (rest := []) (lenOf pd__40_I_91_BIII_41_I rfl) rfl (by show 2 * 0 + _ ≤ _; exact Nat.le_of_eq rfl) (hb hby at_219) (fun _ _ => ⟨rfl, e105, (by decide : (((((((((((((((((((0 + 1) + 0) + 0) + 0) + 0) + 0) + 0) + 0) + 0) + 0) + 0) + 0) + 0) + 0) + 0) + 0) + 0) + 0) + 0) + 0 ≤ _), (by decide : (((((((((((((((((((0 + 16) + 0) + 0) + 0) + 0) + 0) + 0) + 0) + 0) + 0) + 0) + 0) + 0) + 0) + 0) + 0) + 0) + 0) + 0) + 0 ≤ _)⟩)
  dsimp only [Pt.U, Pt.locs, Pt.cells, Pt.slots] at X107 l107 y107 z107 st107 hQ107
  rw [l107, y107, z107] at X107
  obtain ⟨rfl, Nq107, e107⟩ := hQ107
  have Np108 := Fr.app Np106 Nq107
  refine Go.on st107 ?_
  show Go p.tables e below s _ _ _ (T107.setTop (mkF m 222 #[.val (.long q1), .second, .val (.long q2), .second, .val (.int p3), .val (.ref b1), .val (.int (Int32.ofNat oo)), .val (.int (Int32.ofNat n)), .val (.int (own_fold ds oo n 2)), .unset] [(.int (own_fold ds oo n 3))]))
  refine Go.on (fun t k => XS.istore X107.here hx rfl (hb hby at_222) rfl (l' := #[.val (.long q1), .second, .val (.long q2), .second, .val (.int p3), .val (.ref b1), .val (.int (Int32.ofNat oo)), .val (.int (Int32.ofNat n)), .val (.int (own_fold ds oo n 3)), .unset]) rfl k) ?_
  show Go p.tables e below s _ _ _ (T107.setTop (mkF m 224 #[.val (.long q1), .second, .val (.long q2), .second, .val (.int p3), .val (.ref b1), .val (.int (Int32.ofNat oo)), .val (.int (Int32.ofNat n)), .val (.int (own_fold ds oo n 3)), .unset] []))
  refine Go.on (fun t k => XS.iload X107.here hx rfl (hb hby at_224) rfl k) ?_
  show Go p.tables e below s _ _ _ (T107.setTop (mkF m 226 #[.val (.long q1), .second, .val (.long q2), .second, .val (.int p3), .val (.ref b1), .val (.int (Int32.ofNat oo)), .val (.int (Int32.ofNat n)), .val (.int (own_fold ds oo n 3)), .unset] [(.int (own_fold ds oo n 3))]))
  refine Go.on (fun t k => XS.aload X107.here hx rfl (hb hby at_226) rfl rfl k) ?_
  show Go p.tables e below s _ _ _ (T107.setTop (mkF m 228 #[.val (.long q1), .second, .val (.long q2), .second, .val (.int p3), .val (.ref b1), .val (.int (Int32.ofNat oo)), .val (.int (Int32.ofNat n)), .val (.int (own_fold ds oo n 3)), .unset] [(.ref b1), (.int (own_fold ds oo n 3))]))
  refine Go.on (fun t k => XS.iload X107.here hx rfl (hb hby at_228) rfl k) ?_
  show Go p.tables e below s _ _ _ (T107.setTop (mkF m 230 #[.val (.long q1), .second, .val (.long q2), .second, .val (.int p3), .val (.ref b1), .val (.int (Int32.ofNat oo)), .val (.int (Int32.ofNat n)), .val (.int (own_fold ds oo n 3)), .unset] [(.int (Int32.ofNat oo)), (.ref b1), (.int (own_fold ds oo n 3))]))
  refine Go.on (fun t k => XS.iload X107.here hx rfl (hb hby at_230) rfl k) ?_
  show Go p.tables e below s _ _ _ (T107.setTop (mkF m 232 #[.val (.long q1), .second, .val (.long q2), .second, .val (.int p3), .val (.ref b1), .val (.int (Int32.ofNat oo)), .val (.int (Int32.ofNat n)), .val (.int (own_fold ds oo n 3)), .unset] [(.int (Int32.ofNat n)), (.int (Int32.ofNat oo)), (.ref b1), (.int (own_fold ds oo n 3))]))
  refine Go.on (fun t k => XS.iconst X107.here hx rfl (hb hby at_232) k) ?_
  show Go p.tables e below s _ _ _ (T107.setTop (mkF m 233 #[.val (.long q1), .second, .val (.long q2), .second, .val (.int p3), .val (.ref b1), .val (.int (Int32.ofNat oo)), .val (.int (Int32.ofNat n)), .val (.int (own_fold ds oo n 3)), .unset] [(.int (3 : Int32)), (.int (Int32.ofNat n)), (.int (Int32.ofNat oo)), (.ref b1), (.int (own_fold ds oo n 3))]))
  obtain ⟨_, _, ⟨T109, L109, k109, n109⟩, -, X109, ⟨Lc109, hQ109, l109, y109, z109⟩, st109⟩ := Jvm.LawKit.callS X107 hx (y := (⟨"com/example/tidewell/tidewell/engine/FieldTextTextHashPinLaw", "step", "(I[BIII)I"⟩ : MethodName)) hown (mvT hZ (hw _ (List.mem_of_getElem? (i := 6) rfl))) (mvT hZ (hw _ (List.mem_of_getElem? (i := 7) rfl))) (mvT hZ (hw _ (List.mem_of_getElem? (i := 3) rfl))) (mvT hZ (hw _ (List.mem_of_getElem? (i := 8) rfl))) (by decide) (backOf (W := 0) (rm2 l Z a0 hw [] (own_fold ds oo n 3) b1 (Int32.ofNat oo) (Int32.ofNat n) (3 : Int32) k1 ds oo n 3 h98 n0 Zp100 Vd_102 rfl rfl rfl ⟨ho, hn, by omega⟩) hZ (hw _ (List.mem_of_getElem? (i := 8) rfl)) (hw _ (List.mem_of_getElem? (i := 3) rfl)) (by decide) (by decide)) (g := (mkF m 233 #[.val (.long q1), .second, .val (.long q2), .second, .val (.int p3), .val (.ref b1), .val (.int (Int32.ofNat oo)), .val (.int (Int32.ofNat n)), .val (.int (own_fold ds oo n 3)), .unset] [(.int (3 : Int32)), (.int (Int32.ofNat n)), (.int (Int32.ofNat oo)), (.ref b1), (.int (own_fold ds oo n 3))])) rfl (by rw [hml]; rfl) (argsL := [(.int (own_fold ds oo n 3)), (.ref b1), (.int (Int32.ofNat oo)), (.int (Int32.ofNat n)), (.int (3 : Int32))]) (rest := []) (lenOf pd__40_I_91_BIII_41_I rfl) rfl (by show 2 * 0 + _ ≤ _; exact Nat.le_of_eq rfl) (hb hby at_233) (fun _ _ => ⟨rfl, e107, (by decide : ((((((((((((((((((((0 + 1) + 0) + 0) + 0) + 0) + 0) + 0) + 0) + 0) + 0) + 0) + 0) + 0) + 0) + 0) + 0) + 0) + 0) + 0) + 0) + 0 ≤ _), (by decide : ((((((((((((((((((((0 + 16) + 0) + 0) + 0) + 0) + 0) + 0) + 0) + 0) + 0) + 0) + 0) + 0) + 0) + 0) + 0) + 0) + 0) + 0) + 0) + 0 ≤ _)⟩)
  dsimp only [Pt.U, Pt.locs, Pt.cells, Pt.slots] at X109 l109 y109 z109 st109 hQ109
  rw [l109, y109, z109] at X109
  obtain ⟨rfl, Nq109, e109⟩ := hQ109
  have Np110 := Fr.app Np108 Nq109
  refine Go.on st109 ?_
  show Go p.tables e below s _ _ _ (T109.setTop (mkF m 236 #[.val (.long q1), .second, .val (.long q2), .second, .val (.int p3), .val (.ref b1), .val (.int (Int32.ofNat oo)), .val (.int (Int32.ofNat n)), .val (.int (own_fold ds oo n 3)), .unset] [(.int (own_fold ds oo n 4))]))
  refine Go.on (fun t k => XS.istore X109.here hx rfl (hb hby at_236) rfl (l' := #[.val (.long q1), .second, .val (.long q2), .second, .val (.int p3), .val (.ref b1), .val (.int (Int32.ofNat oo)), .val (.int (Int32.ofNat n)), .val (.int (own_fold ds oo n 4)), .unset]) rfl k) ?_
  show Go p.tables e below s _ _ _ (T109.setTop (mkF m 238 #[.val (.long q1), .second, .val (.long q2), .second, .val (.int p3), .val (.ref b1), .val (.int (Int32.ofNat oo)), .val (.int (Int32.ofNat n)), .val (.int (own_fold ds oo n 4)), .unset] []))
  refine Go.on (fun t k => XS.iload X109.here hx rfl (hb hby at_238) rfl k) ?_
  show Go p.tables e below s _ _ _ (T109.setTop (mkF m 240 #[.val (.long q1), .second, .val (.long q2), .second, .val (.int p3), .val (.ref b1), .val (.int (Int32.ofNat oo)), .val (.int (Int32.ofNat n)), .val (.int (own_fold ds oo n 4)), .unset] [(.int (own_fold ds oo n 4))]))
  refine Go.on (fun t k => XS.aload X109.here hx rfl (hb hby at_240) rfl rfl k) ?_
  show Go p.tables e below s _ _ _ (T109.setTop (mkF m 242 #[.val (.long q1), .second, .val (.long q2), .second, .val (.int p3), .val (.ref b1), .val (.int (Int32.ofNat oo)), .val (.int (Int32.ofNat n)), .val (.int (own_fold ds oo n 4)), .unset] [(.ref b1), (.int (own_fold ds oo n 4))]))
  refine Go.on (fun t k => XS.iload X109.here hx rfl (hb hby at_242) rfl k) ?_
  show Go p.tables e below s _ _ _ (T109.setTop (mkF m 244 #[.val (.long q1), .second, .val (.long q2), .second, .val (.int p3), .val (.ref b1), .val (.int (Int32.ofNat oo)), .val (.int (Int32.ofNat n)), .val (.int (own_fold ds oo n 4)), .unset] [(.int (Int32.ofNat oo)), (.ref b1), (.int (own_fold ds oo n 4))]))
  refine Go.on (fun t k => XS.iload X109.here hx rfl (hb hby at_244) rfl k) ?_
  show Go p.tables e below s _ _ _ (T109.setTop (mkF m 246 #[.val (.long q1), .second, .val (.long q2), .second, .val (.int p3), .val (.ref b1), .val (.int (Int32.ofNat oo)), .val (.int (Int32.ofNat n)), .val (.int (own_fold ds oo n 4)), .unset] [(.int (Int32.ofNat n)), (.int (Int32.ofNat oo)), (.ref b1), (.int (own_fold ds oo n 4))]))
  refine Go.on (fun t k => XS.iconst X109.here hx rfl (hb hby at_246) k) ?_
  show Go p.tables e below s _ _ _ (T109.setTop (mkF m 247 #[.val (.long q1), .second, .val (.long q2), .second, .val (.int p3), .val (.ref b1), .val (.int (Int32.ofNat oo)), .val (.int (Int32.ofNat n)), .val (.int (own_fold ds oo n 4)), .unset] [(.int (4 : Int32)), (.int (Int32.ofNat n)), (.int (Int32.ofNat oo)), (.ref b1), (.int (own_fold ds oo n 4))]))
  obtain ⟨_, _, ⟨T111, L111, k111, n111⟩, -, X111, ⟨Lc111, hQ111, l111, y111, z111⟩, st111⟩ := Jvm.LawKit.callS X109 hx (y := (⟨"com/example/tidewell/tidewell/engine/FieldTextTextHashPinLaw", "step", "(I[BIII)I"⟩ : MethodName)) hown (mvT hZ (hw _ (List.mem_of_getElem? (i := 6) rfl))) (mvT hZ (hw _ (List.mem_of_getElem? (i := 7) rfl))) (mvT hZ (hw _ (List.mem_of_getElem? (i := 3) rfl))) (mvT hZ (hw _ (List.mem_of_getElem? (i := 8) rfl))) (by decide) (backOf (W := 0) (rm2 l Z a0 hw [] (own_fold ds oo n 4) b1 (Int32.ofNat oo) (Int32.ofNat n) (4 : Int32) k1 ds oo n 4 h98 n0 Zp100 Vd_102 rfl rfl rfl ⟨ho, hn, by omega⟩) hZ (hw _ (List.mem_of_getElem? (i := 8) rfl)) (hw _ (List.mem_of_getElem? (i := 3) rfl)) (by decide) (by decide)) (g := (mkF m 247 #[.val (.long q1), .second, .val (.long q2), .second, .val (.int p3), .val (.ref b1), .val (.int (Int32.ofNat oo)), .val (.int (Int32.ofNat n)), .val (.int (own_fold ds oo n 4)), .unset] [(.int (4 : Int32)), (.int (Int32.ofNat n)), (.int (Int32.ofNat oo)), (.ref b1), (.int (own_fold ds oo n 4))])) rfl (by rw [hml]; rfl) (argsL := [(.int (own_fold ds oo n 4)), (.ref b1), (.int (Int32.ofNat oo)), (.int (Int32.ofNat n)), (.int (4 : Int32))]) (rest := []) (lenOf pd__40_I_91_BIII_41_I rfl) rfl (by show 2 * 0 + _ ≤ _; exact Nat.le_of_eq rfl) (hb hby at_247) (fun _ _ => ⟨rfl, e109, (by decide : (((((((((((((((((((((0 + 1) + 0) + 0) + 0) + 0) + 0) + 0) + 0) + 0) + 0) + 0) + 0) + 0) + 0) + 0) + 0) + 0) + 0) + 0) + 0) + 0) + 0 ≤ _), (by decide : (((((((((((((((((((((0 + 16) + 0) + 0) + 0) + 0) + 0) + 0) + 0) + 0) + 0) + 0) + 0) + 0) + 0) + 0) + 0) + 0) + 0) + 0) + 0) + 0) + 0 ≤ _)⟩)
  dsimp only [Pt.U, Pt.locs, Pt.cells, Pt.slots] at X111 l111 y111 z111 st111 hQ111
  rw [l111, y111, z111] at X111
  obtain ⟨rfl, Nq111, e111⟩ := hQ111
  have Np112 := Fr.app Np110 Nq111
  refine Go.on st111 ?_
  show Go p.tables e below s _ _ _ (T111.setTop (mkF m 250 #[.val (.long q1), .second, .val (.long q2), .second, .val (.int p3), .val (.ref b1), .val (.int (Int32.ofNat oo)), .val (.int (Int32.ofNat n)), .val (.int (own_fold ds oo n 4)), .unset] [(.int (own_fold ds oo n 5))]))
  refine Go.on (fun t k => XS.istore X111.here hx rfl (hb hby at_250) rfl (l' := #[.val (.long q1), .second, .val (.long q2), .second, .val (.int p3), .val (.ref b1), .val (.int (Int32.ofNat oo)), .val (.int (Int32.ofNat n)), .val (.int (own_fold ds oo n 5)), .unset]) rfl k) ?_
  show Go p.tables e below s _ _ _ (T111.setTop (mkF m 252 #[.val (.long q1), .second, .val (.long q2), .second, .val (.int p3), .val (.ref b1), .val (.int (Int32.ofNat oo)), .val (.int (Int32.ofNat n)), .val (.int (own_fold ds oo n 5)), .unset] []))
  refine Go.on (fun t k => XS.iload X111.here hx rfl (hb hby at_252) rfl k) ?_
  show Go p.tables e below s _ _ _ (T111.setTop (mkF m 254 #[.val (.long q1), .second, .val (.long q2), .second, .val (.int p3), .val (.ref b1), .val (.int (Int32.ofNat oo)), .val (.int (Int32.ofNat n)), .val (.int (own_fold ds oo n 5)), .unset] [(.int (own_fold ds oo n 5))]))
  refine Go.on (fun t k => XS.aload X111.here hx rfl (hb hby at_254) rfl rfl k) ?_
  show Go p.tables e below s _ _ _ (T111.setTop (mkF m 256 #[.val (.long q1), .second, .val (.long q2), .second, .val (.int p3), .val (.ref b1), .val (.int (Int32.ofNat oo)), .val (.int (Int32.ofNat n)), .val (.int (own_fold ds oo n 5)), .unset] [(.ref b1), (.int (own_fold ds oo n 5))]))
  refine Go.on (fun t k => XS.iload X111.here hx rfl (hb hby at_256) rfl k) ?_
  show Go p.tables e below s _ _ _ (T111.setTop (mkF m 258 #[.val (.long q1), .second, .val (.long q2), .second, .val (.int p3), .val (.ref b1), .val (.int (Int32.ofNat oo)), .val (.int (Int32.ofNat n)), .val (.int (own_fold ds oo n 5)), .unset] [(.int (Int32.ofNat oo)), (.ref b1), (.int (own_fold ds oo n 5))]))
  refine Go.on (fun t k => XS.iload X111.here hx rfl (hb hby at_258) rfl k) ?_
  show Go p.tables e below s _ _ _ (T111.setTop (mkF m 260 #[.val (.long q1), .second, .val (.long q2), .second, .val (.int p3), .val (.ref b1), .val (.int (Int32.ofNat oo)), .val (.int (Int32.ofNat n)), .val (.int (own_fold ds oo n 5)), .unset] [(.int (Int32.ofNat n)), (.int (Int32.ofNat oo)), (.ref b1), (.int (own_fold ds oo n 5))]))
  refine Go.on (fun t k => XS.iconst X111.here hx rfl (hb hby at_260) k) ?_
  show Go p.tables e below s _ _ _ (T111.setTop (mkF m 261 #[.val (.long q1), .second, .val (.long q2), .second, .val (.int p3), .val (.ref b1), .val (.int (Int32.ofNat oo)), .val (.int (Int32.ofNat n)), .val (.int (own_fold ds oo n 5)), .unset] [(.int (5 : Int32)), (.int (Int32.ofNat n)), (.int (Int32.ofNat oo)), (.ref b1), (.int (own_fold ds oo n 5))]))
  obtain ⟨_, _, ⟨T113, L113, k113, n113⟩, -, X113, ⟨Lc113, hQ113, l113, y113, z113⟩, st113⟩ := Jvm.LawKit.callS X111 hx (y := (⟨"com/example/tidewell/tidewell/engine/FieldTextTextHashPinLaw", "step", "(I[BIII)I"⟩ : MethodName)) hown (mvT hZ (hw _ (List.mem_of_getElem? (i := 6) rfl))) (mvT hZ (hw _ (List.mem_of_getElem? (i := 7) rfl))) (mvT hZ (hw _ (List.mem_of_getElem? (i := 3) rfl))) (mvT hZ (hw _ (List.mem_of_getElem? (i := 8) rfl))) (by decide) (backOf (W := 0) (rm2 l Z a0 hw [] (own_fold ds oo n 5) b1 (Int32.ofNat oo) (Int32.ofNat n) (5 : Int32) k1 ds oo n 5 h98 n0 Zp100 Vd_102 rfl rfl rfl ⟨ho, hn, by omega⟩) hZ (hw _ (List.mem_of_getElem? (i := 8) rfl)) (hw _ (List.mem_of_getElem? (i := 3) rfl)) (by decide) (by decide)) (g := (mkF m 261 #[.val (.long q1), .second, .val (.long q2), .second, .val (.int p3), .val (.ref b1), .val (.int (Int32.ofNat oo)), .val (.int (Int32.ofNat n)), .val (.int (own_fold ds oo n 5)), .unset] [(.int (5 : Int32)), (.int (Int32.ofNat n)), (.int (Int32.ofNat oo)), (.ref b1), (.int (own_fold ds oo n 5))])) rfl (by rw [hml]; rfl) (argsL := [(.int (own_fold ds oo n 5)), (.ref b1), (.int (Int32.ofNat oo)), (.int (Int32.ofNat n)), (.int (5 : Int32))]) (rest := []) (lenOf pd__40_I_91_BIII_41_I rfl) rfl (by show 2 * 0 + _ ≤ _; exact Nat.le_of_eq rfl) (hb hby at_261) (fun _ _ => ⟨rfl, e111, (by decide : ((((((((((((((((((((((0 + 1) + 0) + 0) + 0) + 0) + 0) + 0) + 0) + 0) + 0) + 0) + 0) + 0) + 0) + 0) + 0) + 0) + 0) + 0) + 0) + 0) + 0) + 0 ≤ _), (by decide : ((((((((((((((((((((((0 + 16) + 0) + 0) + 0) + 0) + 0) + 0) + 0) + 0) + 0) + 0) + 0) + 0) + 0) + 0) + 0) + 0) + 0) + 0) + 0) + 0) + 0) + 0 ≤ _)⟩)
  dsimp only [Pt.U, Pt.locs, Pt.cells, Pt.slots] at X113 l113 y113 z113 st113 hQ113
  rw [l113, y113, z113] at X113
  obtain ⟨rfl, Nq113, e113⟩ := hQ113
  have Np114 := Fr.app Np112 Nq113
  refine Go.on st113 ?_
  show Go p.tables e below s _ _ _ (T113.setTop (mkF m 264 #[.val (.long q1), .second, .val (.long q2), .second, .val (.int p3), .val (.ref b1), .val (.int (Int32.ofNat oo)), .val (.int (Int32.ofNat n)), .val (.int (own_fold ds oo n 5)), .unset] [(.int (own_fold ds oo n 6))]))
  refine Go.on (fun t k => XS.istore X113.here hx rfl (hb hby at_264) rfl (l' := #[.val (.long q1), .second, .val (.long q2), .second, .val (.int p3), .val (.ref b1), .val (.int (Int32.ofNat oo)), .val (.int (Int32.ofNat n)), .val (.int (own_fold ds oo n 6)), .unset]) rfl k) ?_
  show Go p.tables e below s _ _ _ (T113.setTop (mkF m 266 #[.val (.long q1), .second, .val (.long q2), .second, .val (.int p3), .val (.ref b1), .val (.int (Int32.ofNat oo)), .val (.int (Int32.ofNat n)), .val (.int (own_fold ds oo n 6)), .unset] []))
  refine Go.on (fun t k => XS.iload X113.here hx rfl (hb hby at_266) rfl k) ?_
  show Go p.tables e below s _ _ _ (T113.setTop (mkF m 268 #[.val (.long q1), .second, .val (.long q2), .second, .val (.int p3), .val (.ref b1), .val (.int (Int32.ofNat oo)), .val (.int (Int32.ofNat n)), .val (.int (own_fold ds oo n 6)), .unset] [(.int (own_fold ds oo n 6))]))
  refine Go.on (fun t k => XS.aload X113.here hx rfl (hb hby at_268) rfl rfl k) ?_
  show Go p.tables e below s _ _ _ (T113.setTop (mkF m 270 #[.val (.long q1), .second, .val (.long q2), .second, .val (.int p3), .val (.ref b1), .val (.int (Int32.ofNat oo)), .val (.int (Int32.ofNat n)), .val (.int (own_fold ds oo n 6)), .unset] [(.ref b1), (.int (own_fold ds oo n 6))]))
  refine Go.on (fun t k => XS.iload X113.here hx rfl (hb hby at_270) rfl k) ?_
  show Go p.tables e below s _ _ _ (T113.setTop (mkF m 272 #[.val (.long q1), .second, .val (.long q2), .second, .val (.int p3), .val (.ref b1), .val (.int (Int32.ofNat oo)), .val (.int (Int32.ofNat n)), .val (.int (own_fold ds oo n 6)), .unset] [(.int (Int32.ofNat oo)), (.ref b1), (.int (own_fold ds oo n 6))]))
  refine Go.on (fun t k => XS.iload X113.here hx rfl (hb hby at_272) rfl k) ?_
  show Go p.tables e below s _ _ _ (T113.setTop (mkF m 274 #[.val (.long q1), .second, .val (.long q2), .second, .val (.int p3), .val (.ref b1), .val (.int (Int32.ofNat oo)), .val (.int (Int32.ofNat n)), .val (.int (own_fold ds oo n 6)), .unset] [(.int (Int32.ofNat n)), (.int (Int32.ofNat oo)), (.ref b1), (.int (own_fold ds oo n 6))]))
  refine Go.on (fun t k => XS.bipush X113.here hx rfl (hb hby at_274) k) ?_
  show Go p.tables e below s _ _ _ (T113.setTop (mkF m 276 #[.val (.long q1), .second, .val (.long q2), .second, .val (.int p3), .val (.ref b1), .val (.int (Int32.ofNat oo)), .val (.int (Int32.ofNat n)), .val (.int (own_fold ds oo n 6)), .unset] [(.int (6 : Int32)), (.int (Int32.ofNat n)), (.int (Int32.ofNat oo)), (.ref b1), (.int (own_fold ds oo n 6))]))
  obtain ⟨_, _, ⟨T115, L115, k115, n115⟩, -, X115, ⟨Lc115, hQ115, l115, y115, z115⟩, st115⟩ := Jvm.LawKit.callS X113 hx (y := (⟨"com/example/tidewell/tidewell/engine/FieldTextTextHashPinLaw", "step", "(I[BIII)I"⟩ : MethodName)) hown (mvT hZ (hw _ (List.mem_of_getElem? (i := 6) rfl))) (mvT hZ (hw _ (List.mem_of_getElem? (i := 7) rfl))) (mvT hZ (hw _ (List.mem_of_getElem? (i := 3) rfl))) (mvT hZ (hw _ (List.mem_of_getElem? (i := 8) rfl))) (by decide) (backOf (W := 0) (rm2 l Z a0 hw [] (own_fold ds oo n 6) b1 (Int32.ofNat oo) (Int32.ofNat n) (6 : Int32) k1 ds oo n 6 h98 n0 Zp100 Vd_102 rfl rfl rfl ⟨ho, hn, by omega⟩) hZ (hw _ (List.mem_of_getElem? (i := 8) rfl)) (hw _ (List.mem_of_getElem? (i := 3) rfl)) (by decide) (by decide)) (g := (mkF m 276 #[.val (.long q1), .second, .val (.long q2), .second, .val (.int p3), .val (.ref b1), .val (.int (Int32.ofNat oo)), .val (.int (Int32.ofNat n)), .val (.int (own_fold ds oo n 6)), .unset] [(.int (6 : Int32)), (.int (Int32.ofNat n)), (.int (Int32.ofNat oo)), (.ref b1), (.int (own_fold ds oo n 6))])) rfl (by rw [hml]; rfl) (argsL := [(.int (own_fold ds oo n 6)), (.ref b1), (.int (Int32.ofNat oo)), (.int (Int32.ofNat n)), (.int (6 : Int32))]) (rest := []) (lenOf pd__40_I_91_BIII_41_I rfl) rfl (by show 2 * 0 + _ ≤ _; exact Nat.le_of_eq rfl) (hb hby at_276) (fun _ _ => ⟨rfl, e113, (by decide : (((((((((((((((((((((((0 + 1) + 0) + 0) + 0) + 0) + 0) + 0) + 0) + 0) + 0) + 0) + 0) + 0) + 0) + 0) + 0) + 0) + 0) + 0) + 0) + 0) + 0) + 0) + 0 ≤ _), (by decide : (((((((((((((((((((((((0 + 16) + 0) + 0) + 0) + 0) + 0) + 0) + 0) + 0) + 0) + 0) + 0) + 0) + 0) + 0) + 0) + 0) + 0) + 0) + 0) + 0) + 0) + 0) + 0 ≤ _)⟩)
  dsimp only [Pt.U, Pt.locs, Pt.cells, Pt.slots] at X115 l115 y115 z115 st115 hQ115
  rw [l115, y115, z115] at X115
  obtain ⟨rfl, Nq115, e115⟩ := hQ115
  have Np116 := Fr.app Np114 Nq115
  refine Go.on st115 ?_
  show Go p.tables e below s _ _ _ (T115.setTop (mkF m 279 #[.val (.long q1), .second, .val (.long q2), .second, .val (.int p3), .val (.ref b1), .val (.int (Int32.ofNat oo)), .val (.int (Int32.ofNat n)), .val (.int (own_fold ds oo n 6)), .unset] [(.int (own_fold ds oo n 7))]))
  refine Go.on (fun t k => XS.istore X115.here hx rfl (hb hby at_279) rfl (l' := #[.val (.long q1), .second, .val (.long q2), .second, .val (.int p3), .val (.ref b1), .val (.int (Int32.ofNat oo)), .val (.int (Int32.ofNat n)), .val (.int (own_fold ds oo n 7)), .unset]) rfl k) ?_
  show Go p.tables e below s _ _ _ (T115.setTop (mkF m 281 #[.val (.long q1), .second, .val (.long q2), .second, .val (.int p3), .val (.ref b1), .val (.int (Int32.ofNat oo)), .val (.int (Int32.ofNat n)), .val (.int (own_fold ds oo n 7)), .unset] []))
  refine Go.on (fun t k => XS.iload X115.here hx rfl (hb hby at_281) rfl k) ?_
  show Go p.tables e below s _ _ _ (T115.setTop (mkF m 283 #[.val (.long q1), .second, .val (.long q2), .second, .val (.int p3), .val (.ref b1), .val (.int (Int32.ofNat oo)), .val (.int (Int32.ofNat n)), .val (.int (own_fold ds oo n 7)), .unset] [(.int (own_fold ds oo n 7))]))
  refine Go.on (fun t k => XS.aload X115.here hx rfl (hb hby at_283) rfl rfl k) ?_
  show Go p.tables e below s _ _ _ (T115.setTop (mkF m 285 #[.val (.long q1), .second, .val (.long q2), .second, .val (.int p3), .val (.ref b1), .val (.int (Int32.ofNat oo)), .val (.int (Int32.ofNat n)), .val (.int (own_fold ds oo n 7)), .unset] [(.ref b1), (.int (own_fold ds oo n 7))]))
  refine Go.on (fun t k => XS.iload X115.here hx rfl (hb hby at_285) rfl k) ?_
  show Go p.tables e below s _ _ _ (T115.setTop (mkF m 287 #[.val (.long q1), .second, .val (.long q2), .second, .val (.int p3), .val (.ref b1), .val (.int (Int32.ofNat oo)), .val (.int (Int32.ofNat n)), .val (.int (own_fold ds oo n 7)), .unset] [(.int (Int32.ofNat oo)), (.ref b1), (.int (own_fold ds oo n 7))]))
  refine Go.on (fun t k => XS.iload X115.here hx rfl (hb hby at_287) rfl k) ?_
  show Go p.tables e below s _ _ _ (T115.setTop (mkF m 289 #[.val (.long q1), .second, .val (.long q2), .second, .val (.int p3), .val (.ref b1), .val (.int (Int32.ofNat oo)), .val (.int (Int32.ofNat n)), .val (.int (own_fold ds oo n 7)), .unset] [(.int (Int32.ofNat n)), (.int (Int32.ofNat oo)), (.ref b1), (.int (own_fold ds oo n 7))]))
  refine Go.on (fun t k => XS.bipush X115.here hx rfl (hb hby at_289) k) ?_
  show Go p.tables e below s _ _ _ (T115.setTop (mkF m 291 #[.val (.long q1), .second, .val (.long q2), .second, .val (.int p3), .val (.ref b1), .val (.int (Int32.ofNat oo)), .val (.int (Int32.ofNat n)), .val (.int (own_fold ds oo n 7)), .unset] [(.int (7 : Int32)), (.int (Int32.ofNat n)), (.int (Int32.ofNat oo)), (.ref b1), (.int (own_fold ds oo n 7))]))
  obtain ⟨_, _, ⟨T117, L117, k117, n117⟩, -, X117, ⟨Lc117, hQ117, l117, y117, z117⟩, st117⟩ := Jvm.LawKit.callS X115 hx (y := (⟨"com/example/tidewell/tidewell/engine/FieldTextTextHashPinLaw", "step", "(I[BIII)I"⟩ : MethodName)) hown (mvT hZ (hw _ (List.mem_of_getElem? (i := 6) rfl))) (mvT hZ (hw _ (List.mem_of_getElem? (i := 7) rfl))) (mvT hZ (hw _ (List.mem_of_getElem? (i := 3) rfl))) (mvT hZ (hw _ (List.mem_of_getElem? (i := 8) rfl))) (by decide) (backOf (W := 0) (rm2 l Z a0 hw [] (own_fold ds oo n 7) b1 (Int32.ofNat oo) (Int32.ofNat n) (7 : Int32) k1 ds oo n 7 h98 n0 Zp100 Vd_102 rfl rfl rfl ⟨ho, hn, by omega⟩) hZ (hw _ (List.mem_of_getElem? (i := 8) rfl)) (hw _ (List.mem_of_getElem? (i := 3) rfl)) (by decide) (by decide)) (g := (mkF m 291 #[.val (.long q1), .second, .val (.long q2), .second, .val (.int p3), .val (.ref b1), .val (.int (Int32.ofNat oo)), .val (.int (Int32.ofNat n)), .val (.int (own_fold ds oo n 7)), .unset] [(.int (7 : Int32)), (.int (Int32.ofNat n)), (.int (Int32.ofNat oo)), (.ref b1), (.int (own_fold ds oo n 7))])) rfl (by rw [hml]; rfl) (argsL := [(.int (own_fold ds oo n 7)), (.ref b1), (.int (Int32.ofNat oo)), (.int (Int32.ofNat n)), (.int (7 : Int32))]) (rest := []) (lenOf pd__40_I_91_BIII_41_I rfl) rfl (by show 2 * 0 + _ ≤ _; exact Nat.le_of_eq rfl) (hb hby at_291) (fun _ _ => ⟨rfl, e115, (by decide : ((((((((((((((((((((((((0 + 1) + 0) + 0) + 0) + 0) + 0) + 0) + 0) + 0) + 0) + 0) + 0) + 0) + 0) + 0) + 0) + 0) + 0) + 0) + 0) + 0) + 0) + 0) + 0) + 0 ≤ _), (by decide : ((((((((((((((((((((((((0 + 16) + 0) + 0) + 0) + 0) + 0) + 0) + 0) + 0) + 0) + 0) + 0) + 0) + 0) + 0) + 0) + 0) + 0) + 0) + 0) + 0) + 0) + 0) + 0) + 0 ≤ _)⟩)
  dsimp only [Pt.U, Pt.locs, Pt.cells, Pt.slots] at X117 l117 y117 z117 st117 hQ117
  rw [l117, y117, z117] at X117
  obtain ⟨rfl, Nq117, e117⟩ := hQ117
  have Np118 := Fr.app Np116 Nq117
  refine Go.on st117 ?_
  show Go p.tables e below s _ _ _ (T117.setTop (mkF m 294 #[.val (.long q1), .second, .val (.long q2), .second, .val (.int p3), .val (.ref b1), .val (.int (Int32.ofNat oo)), .val (.int (Int32.ofNat n)), .val (.int (own_fold ds oo n 7)), .unset] [(.int (own_fold ds oo n 8))]))
  refine Go.on (fun t k => XS.istore X117.here hx rfl (hb hby at_294) rfl (l' := #[.val (.long q1), .second, .val (.long q2), .second, .val (.int p3), .val (.ref b1), .val (.int (Int32.ofNat oo)), .val (.int (Int32.ofNat n)), .val (.int (own_fold ds oo n 8)), .unset]) rfl k) ?_
  show Go p.tables e below s _ _ _ (T117.setTop (mkF m 296 #[.val (.long q1), .second, .val (.long q2), .second, .val (.int p3), .val (.ref b1), .val (.int (Int32.ofNat oo)), .val (.int (Int32.ofNat n)), .val (.int (own_fold ds oo n 8)), .unset] []))
  refine Go.on (fun t k => XS.iload X117.here hx rfl (hb hby at_296) rfl k) ?_
  show Go p.tables e below s _ _ _ (T117.setTop (mkF m 298 #[.val (.long q1), .second, .val (.long q2), .second, .val (.int p3), .val (.ref b1), .val (.int (Int32.ofNat oo)), .val (.int (Int32.ofNat n)), .val (.int (own_fold ds oo n 8)), .unset] [(.int (own_fold ds oo n 8))]))
  refine Go.on (fun t k => XS.aload X117.here hx rfl (hb hby at_298) rfl rfl k) ?_
  show Go p.tables e below s _ _ _ (T117.setTop (mkF m 300 #[.val (.long q1), .second, .val (.long q2), .second, .val (.int p3), .val (.ref b1), .val (.int (Int32.ofNat oo)), .val (.int (Int32.ofNat n)), .val (.int (own_fold ds oo n 8)), .unset] [(.ref b1), (.int (own_fold ds oo n 8))]))
  refine Go.on (fun t k => XS.iload X117.here hx rfl (hb hby at_300) rfl k) ?_
  show Go p.tables e below s _ _ _ (T117.setTop (mkF m 302 #[.val (.long q1), .second, .val (.long q2), .second, .val (.int p3), .val (.ref b1), .val (.int (Int32.ofNat oo)), .val (.int (Int32.ofNat n)), .val (.int (own_fold ds oo n 8)), .unset] [(.int (Int32.ofNat oo)), (.ref b1), (.int (own_fold ds oo n 8))]))
  refine Go.on (fun t k => XS.iload X117.here hx rfl (hb hby at_302) rfl k) ?_
  show Go p.tables e below s _ _ _ (T117.setTop (mkF m 304 #[.val (.long q1), .second, .val (.long q2), .second, .val (.int p3), .val (.ref b1), .val (.int (Int32.ofNat oo)), .val (.int (Int32.ofNat n)), .val (.int (own_fold ds oo n 8)), .unset] [(.int (Int32.ofNat n)), (.int (Int32.ofNat oo)), (.ref b1), (.int (own_fold ds oo n 8))]))
  refine Go.on (fun t k => XS.bipush X117.here hx rfl (hb hby at_304) k) ?_
  show Go p.tables e below s _ _ _ (T117.setTop (mkF m 306 #[.val (.long q1), .second, .val (.long q2), .second, .val (.int p3), .val (.ref b1), .val (.int (Int32.ofNat oo)), .val (.int (Int32.ofNat n)), .val (.int (own_fold ds oo n 8)), .unset] [(.int (8 : Int32)), (.int (Int32.ofNat n)), (.int (Int32.ofNat oo)), (.ref b1), (.int (own_fold ds oo n 8))]))
  obtain ⟨_, _, ⟨T119, L119, k119, n119⟩, -, X119, ⟨Lc119, hQ119, l119, y119, z119⟩, st119⟩ := Jvm.LawKit.callS X117 hx (y := (⟨"com/example/tidewell/tidewell/engine/FieldTextTextHashPinLaw", "step", "(I[BIII)I"⟩ : MethodName)) hown (mvT hZ (hw _ (List.mem_of_getElem? (i := 6) rfl))) (mvT hZ (hw _ (List.mem_of_getElem? (i := 7) rfl))) (mvT hZ (hw _ (List.mem_of_getElem? (i := 3) rfl))) (mvT hZ (hw _ (List.mem_of_getElem? (i := 8) rfl))) (by decide) (backOf (W := 0) (rm2 l Z a0 hw [] (own_fold ds oo n 8) b1 (Int32.ofNat oo) (Int32.ofNat n) (8 : Int32) k1 ds oo n 8 h98 n0 Zp100 Vd_102 rfl rfl rfl ⟨ho, hn, by omega⟩) hZ (hw _ (List.mem_of_getElem? (i := 8) rfl)) (hw _ (List.mem_of_getElem? (i := 3) rfl)) (by decide) (by decide)) (g := (mkF m 306 #[.val (.long q1), .second, .val (.long q2), .second, .val (.int p3), .val (.ref b1), .val (.int (Int32.ofNat oo)), .val (.int (Int32.ofNat n)), .val (.int (own_fold ds oo n 8)), .unset] [(.int (8 : Int32)), (.int (Int32.ofNat n)), (.int (Int32.ofNat oo)), (.ref b1), (.int (own_fold ds oo n 8))])) rfl (by rw [hml]; rfl) (argsL := [(.int (own_fold ds oo n 8)), (.ref b1), (.int (Int32.ofNat oo)), (.int (Int32.ofNat n)), (.int (8 : Int32))]) (rest := []) (lenOf pd__40_I_91_BIII_41_I rfl) rfl (by show 2 * 0 + _ ≤ _; exact Nat.le_of_eq rfl) (hb hby at_306) (fun _ _ => ⟨rfl, e117, (by decide : (((((((((((((((((((((((((0 + 1) + 0) + 0) + 0) + 0) + 0) + 0) + 0) + 0) + 0) + 0) + 0) + 0) + 0) + 0) + 0) + 0) + 0) + 0) + 0) + 0) + 0) + 0) + 0) + 0) + 0 ≤ _), (by decide : (((((((((((((((((((((((((0 + 16) + 0) + 0) + 0) + 0) + 0) + 0) + 0) + 0) + 0) + 0) + 0) + 0) + 0) + 0) + 0) + 0) + 0) + 0) + 0) + 0) + 0) + 0) + 0) + 0) + 0 ≤ _)⟩)
  dsimp only [Pt.U, Pt.locs, Pt.cells, Pt.slots] at X119 l119 y119 z119 st119 hQ119
  rw [l119, y119, z119] at X119
  obtain ⟨rfl, Nq119, e119⟩ := hQ119
  have Np120 := Fr.app Np118 Nq119
  refine Go.on st119 ?_
  show Go p.tables e below s _ _ _ (T119.setTop (mkF m 309 #[.val (.long q1), .second, .val (.long q2), .second, .val (.int p3), .val (.ref b1), .val (.int (Int32.ofNat oo)), .val (.int (Int32.ofNat n)), .val (.int (own_fold ds oo n 8)), .unset] [(.int (own_fold ds oo n 9))]))
  refine Go.on (fun t k => XS.istore X119.here hx rfl (hb hby at_309) rfl (l' := #[.val (.long q1), .second, .val (.long q2), .second, .val (.int p3), .val (.ref b1), .val (.int (Int32.ofNat oo)), .val (.int (Int32.ofNat n)), .val (.int (own_fold ds oo n 9)), .unset]) rfl k) ?_
  show Go p.tables e below s _ _ _ (T119.setTop (mkF m 311 #[.val (.long q1), .second, .val (.long q2), .second, .val (.int p3), .val (.ref b1), .val (.int (Int32.ofNat oo)), .val (.int (Int32.ofNat n)), .val (.int (own_fold ds oo n 9)), .unset] []))
  refine Go.on (fun t k => XS.iload X119.here hx rfl (hb hby at_311) rfl k) ?_
  show Go p.tables e below s _ _ _ (T119.setTop (mkF m 313 #[.val (.long q1), .second, .val (.long q2), .second, .val (.int p3), .val (.ref b1), .val (.int (Int32.ofNat oo)), .val (.int (Int32.ofNat n)), .val (.int (own_fold ds oo n 9)), .unset] [(.int (own_fold ds oo n 9))]))
  refine Go.on (fun t k => XS.aload X119.here hx rfl (hb hby at_313) rfl rfl k) ?_
  show Go p.tables e below s _ _ _ (T119.setTop (mkF m 315 #[.val (.long q1), .second, .val (.long q2), .second, .val (.int p3), .val (.ref b1), .val (.int (Int32.ofNat oo)), .val (.int (Int32.ofNat n)), .val (.int (own_fold ds oo n 9)), .unset] [(.ref b1), (.int (own_fold ds oo n 9))]))
  refine Go.on (fun t k => XS.iload X119.here hx rfl (hb hby at_315) rfl k) ?_
  show Go p.tables e below s _ _ _ (T119.setTop (mkF m 317 #[.val (.long q1), .second, .val (.long q2), .second, .val (.int p3), .val (.ref b1), .val (.int (Int32.ofNat oo)), .val (.int (Int32.ofNat n)), .val (.int (own_fold ds oo n 9)), .unset] [(.int (Int32.ofNat oo)), (.ref b1), (.int (own_fold ds oo n 9))]))
  refine Go.on (fun t k => XS.iload X119.here hx rfl (hb hby at_317) rfl k) ?_
  show Go p.tables e below s _ _ _ (T119.setTop (mkF m 319 #[.val (.long q1), .second, .val (.long q2), .second, .val (.int p3), .val (.ref b1), .val (.int (Int32.ofNat oo)), .val (.int (Int32.ofNat n)), .val (.int (own_fold ds oo n 9)), .unset] [(.int (Int32.ofNat n)), (.int (Int32.ofNat oo)), (.ref b1), (.int (own_fold ds oo n 9))]))
  refine Go.on (fun t k => XS.bipush X119.here hx rfl (hb hby at_319) k) ?_
  show Go p.tables e below s _ _ _ (T119.setTop (mkF m 321 #[.val (.long q1), .second, .val (.long q2), .second, .val (.int p3), .val (.ref b1), .val (.int (Int32.ofNat oo)), .val (.int (Int32.ofNat n)), .val (.int (own_fold ds oo n 9)), .unset] [(.int (9 : Int32)), (.int (Int32.ofNat n)), (.int (Int32.ofNat oo)), (.ref b1), (.int (own_fold ds oo n 9))]))
  obtain ⟨_, _, ⟨T121, L121, k121, n121⟩, -, X121, ⟨Lc121, hQ121, l121, y121, z121⟩, st121⟩ := Jvm.LawKit.callS X119 hx (y := (⟨"com/example/tidewell/tidewell/engine/FieldTextTextHashPinLaw", "step", "(I[BIII)I"⟩ : MethodName)) hown (mvT hZ (hw _ (List.mem_of_getElem? (i := 6) rfl))) (mvT hZ (hw _ (List.mem_of_getElem? (i := 7) rfl))) (mvT hZ (hw _ (List.mem_of_getElem? (i := 3) rfl))) (mvT hZ (hw _ (List.mem_of_getElem? (i := 8) rfl))) (by decide) (backOf (W := 0) (rm2 l Z a0 hw [] (own_fold ds oo n 9) b1 (Int32.ofNat oo) (Int32.ofNat n) (9 : Int32) k1 ds oo n 9 h98 n0 Zp100 Vd_102 rfl rfl rfl ⟨ho, hn, by omega⟩) hZ (hw _ (List.mem_of_getElem? (i := 8) rfl)) (hw _ (List.mem_of_getElem? (i := 3) rfl)) (by decide) (by decide)) (g := (mkF m 321 #[.val (.long q1), .second, .val (.long q2), .second, .val (.int p3), .val (.ref b1), .val (.int (Int32.ofNat oo)), .val (.int (Int32.ofNat n)), .val (.int (own_fold ds oo n 9)), .unset] [(.int (9 : Int32)), (.int (Int32.ofNat n)), (.int (Int32.ofNat oo)), (.ref b1), (.int (own_fold ds oo n 9))])) rfl (by rw [hml]; rfl) (argsL := [(.int (own_fold ds oo n 9)), (.ref b1), (.int (Int32.ofNat oo)), (.int (Int32.ofNat n)), (.int (9 : Int32))]) (rest := []) (lenOf pd__40_I_91_BIII_41_I rfl) rfl (by show 2 * 0 + _ ≤ _; exact Nat.le_of_eq rfl) (hb hby at_321) (fun _ _ => ⟨rfl, e119, (by decide : ((((((((((((((((((((((((((0 + 1) + 0) + 0) + 0) + 0) + 0) + 0) + 0) + 0) + 0) + 0) + 0) + 0) + 0) + 0) + 0) + 0) + 0) + 0) + 0) + 0) + 0) + 0) + 0) + 0) + 0) + 0 ≤ _), (by decide : ((((((((((((((((((((((((((0 + 16) + 0) + 0) + 0) + 0) + 0) + 0) + 0) + 0) + 0) + 0) + 0) + 0) + 0) + 0) + 0) + 0) + 0) + 0) + 0) + 0) + 0) + 0) + 0) + 0) + 0) + 0 ≤ _)⟩)
  dsimp only [Pt.U, Pt.locs, Pt.cells, Pt.slots] at X121 l121 y121 z121 st121 hQ121
  rw [l121, y121, z121] at X121
  obtain ⟨rfl, Nq121, e121⟩ := hQ121
  have Np122 := Fr.app Np120 Nq121
  refine Go.on st121 ?_
  show Go p.tables e below s _ _ _ (T121.setTop (mkF m 324 #[.val (.long q1), .second, .val (.long q2), .second, .val (.int p3), .val (.ref b1), .val (.int (Int32.ofNat oo)), .val (.int (Int32.ofNat n)), .val (.int (own_fold ds oo n 9)), .unset] [(.int (own_fold ds oo n 10))]))
  refine Go.on (fun t k => XS.istore X121.here hx rfl (hb hby at_324) rfl (l' := #[.val (.long q1), .second, .val (.long q2), .second, .val (.int p3), .val (.ref b1), .val (.int (Int32.ofNat oo)), .val (.int (Int32.ofNat n)), .val (.int (own_fold ds oo n 10)), .unset]) rfl k) ?_
  show Go p.tables e below s _ _ _ (T121.setTop (mkF m 326 #[.val (.long q1), .second, .val (.long q2), .second, .val (.int p3), .val (.ref b1), .val (.int (Int32.ofNat oo)), .val (.int (Int32.ofNat n)), .val (.int (own_fold ds oo n 10)), .unset] []))
  refine Go.on (fun t k => XS.iload X121.here hx rfl (hb hby at_326) rfl k) ?_
  show Go p.tables e below s _ _ _ (T121.setTop (mkF m 328 #[.val (.long q1), .second, .val (.long q2), .second, .val (.int p3), .val (.ref b1), .val (.int (Int32.ofNat oo)), .val (.int (Int32.ofNat n)), .val (.int (own_fold ds oo n 10)), .unset] [(.int (own_fold ds oo n 10))]))
  refine Go.on (fun t k => XS.aload X121.here hx rfl (hb hby at_328) rfl rfl k) ?_
  show Go p.tables e below s _ _ _ (T121.setTop (mkF m 330 #[.val (.long q1), .second, .val (.long q2), .second, .val (.int p3), .val (.ref b1), .val (.int (Int32.ofNat oo)), .val (.int (Int32.ofNat n)), .val (.int (own_fold ds oo n 10)), .unset] [(.ref b1), (.int (own_fold ds oo n 10))]))
  refine Go.on (fun t k => XS.iload X121.here hx rfl (hb hby at_330) rfl k) ?_
  show Go p.tables e below s _ _ _ (T121.setTop (mkF m 332 #[.val (.long q1), .second, .val (.long q2), .second, .val (.int p3), .val (.ref b1), .val (.int (Int32.ofNat oo)), .val (.int (Int32.ofNat n)), .val (.int (own_fold ds oo n 10)), .unset] [(.int (Int32.ofNat oo)), (.ref b1), (.int (own_fold ds oo n 10))]))
  refine Go.on (fun t k => XS.iload X121.here hx rfl (hb hby at_332) rfl k) ?_
  show Go p.tables e below s _ _ _ (T121.setTop (mkF m 334 #[.val (.long q1), .second, .val (.long q2), .second, .val (.int p3), .val (.ref b1), .val (.int (Int32.ofNat oo)), .val (.int (Int32.ofNat n)), .val (.int (own_fold ds oo n 10)), .unset] [(.int (Int32.ofNat n)), (.int (Int32.ofNat oo)), (.ref b1), (.int (own_fold ds oo n 10))]))
  refine Go.on (fun t k => XS.bipush X121.here hx rfl (hb hby at_334) k) ?_
  show Go p.tables e below s _ _ _ (T121.setTop (mkF m 336 #[.val (.long q1), .second, .val (.long q2), .second, .val (.int p3), .val (.ref b1), .val (.int (Int32.ofNat oo)), .val (.int (Int32.ofNat n)), .val (.int (own_fold ds oo n 10)), .unset] [(.int (10 : Int32)), (.int (Int32.ofNat n)), (.int (Int32.ofNat oo)), (.ref b1), (.int (own_fold ds oo n 10))]))
  obtain ⟨_, _, ⟨T123, L123, k123, n123⟩, -, X123, ⟨Lc123, hQ123, l123, y123, z123⟩, st123⟩ := Jvm.LawKit.callS X121 hx (y := (⟨"com/example/tidewell/tidewell/engine/FieldTextTextHashPinLaw", "step", "(I[BIII)I"⟩ : MethodName)) hown (mvT hZ (hw _ (List.mem_of_getElem? (i := 6) rfl))) (mvT hZ (hw _ (List.mem_of_getElem? (i := 7) rfl))) (mvT hZ (hw _ (List.mem_of_getElem? (i := 3) rfl))) (mvT hZ (hw _ (List.mem_of_getElem? (i := 8) rfl))) (by decide) (backOf (W := 0) (rm2 l Z a0 hw [] (own_fold ds oo n 10) b1 (Int32.ofNat oo) (Int32.ofNat n) (10 : Int32) k1 ds oo n 10 h98 n0 Zp100 Vd_102 rfl rfl rfl ⟨ho, hn, by omega⟩) hZ (hw _ (List.mem_of_getElem? (i := 8) rfl)) (hw _ (List.mem_of_getElem? (i := 3) rfl)) (by decide) (by decide)) (g := (mkF m 336 #[.val (.long q1), .second, .val (.long q2), .second, .val (.int p3), .val (.ref b1), .val (.int (Int32.ofNat oo)), .val (.int (Int32.ofNat n)), .val (.int (own_fold ds oo n 10)), .unset] [(.int (10 : Int32)), (.int (Int32.ofNat n)), (.int (Int32.ofNat oo)), (.ref b1), (.int (own_fold ds oo n 10))])) rfl (by rw [hml]; rfl) (argsL := [(.int (own_fold ds oo n 10)), (.ref b1), (.int (Int32.ofNat oo)), (.int (Int32.ofNat n)), (.int (10 : Int32))]) (rest := []) (lenOf pd__40_I_91_BIII_41_I rfl) rfl (by show 2 * 0 + _ ≤ _; exact Nat.le_of_eq rfl) (hb hby at_336) (fun _ _ => ⟨rfl, e121, (by decide : (((((((((((((((((((((((((((0 + 1) + 0) + 0) + 0) + 0) + 0) + 0) + 0) + 0) + 0) + 0) + 0) + 0) + 0) + 0) + 0) + 0) + 0) + 0) + 0) + 0) + 0) + 0) + 0) + 0) + 0) + 0) + 0 ≤ _), (by decide : (((((((((((((((((((((((((((0 + 16) + 0) + 0) + 0) + 0) + 0) + 0) + 0) + 0) + 0) + 0) + 0) + 0) + 0) + 0) + 0) + 0) + 0) + 0) + 0) + 0) + 0) + 0) + 0) + 0) + 0) + 0) + 0 ≤ _)⟩)
  dsimp only [Pt.U, Pt.locs, Pt.cells, Pt.slots] at X123 l123 y123 z123 st123 hQ123
  rw [l123, y123, z123] at X123
  obtain ⟨rfl, Nq123, e123⟩ := hQ123
  have Np124 := Fr.app Np122 Nq123
  refine Go.on st123 ?_
  show Go p.tables e below s _ _ _ (T123.setTop (mkF m 339 #[.val (.long q1), .second, .val (.long q2), .second, .val (.int p3), .val (.ref b1), .val (.int (Int32.ofNat oo)), .val (.int (Int32.ofNat n)), .val (.int (own_fold ds oo n 10)), .unset] [(.int (own_fold ds oo n 11))]))
  refine Go.on (fun t k => XS.istore X123.here hx rfl (hb hby at_339) rfl (l' := #[.val (.long q1), .second, .val (.long q2), .second, .val (.int p3), .val (.ref b1), .val (.int (Int32.ofNat oo)), .val (.int (Int32.ofNat n)), .val (.int (own_fold ds oo n 11)), .unset]) rfl k) ?_
  show Go p.tables e below s _ _ _ (T123.setTop (mkF m 341 #[.val (.long q1), .second, .val (.long q2), .second, .val (.int p3), .val (.ref b1), .val (.int (Int32.ofNat oo)), .val (.int (Int32.ofNat n)), .val (.int (own_fold ds oo n 11)), .unset] []))
  refine Go.on (fun t k => XS.iload X123.here hx rfl (hb hby at_341) rfl k) ?_
  show Go p.tables e below s _ _ _ (T123.setTop (mkF m 343 #[.val (.long q1), .second, .val (.long q2), .second, .val (.int p3), .val (.ref b1), .val (.int (Int32.ofNat oo)), .val (.int (Int32.ofNat n)), .val (.int (own_fold ds oo n 11)), .unset] [(.int (own_fold ds oo n 11))]))
  refine Go.on (fun t k => XS.aload X123.here hx rfl (hb hby at_343) rfl rfl k) ?_
  show Go p.tables e below s _ _ _ (T123.setTop (mkF m 345 #[.val (.long q1), .second, .val (.long q2), .second, .val (.int p3), .val (.ref b1), .val (.int (Int32.ofNat oo)), .val (.int (Int32.ofNat n)), .val (.int (own_fold ds oo n 11)), .unset] [(.ref b1), (.int (own_fold ds oo n 11))]))
  refine Go.on (fun t k => XS.iload X123.here hx rfl (hb hby at_345) rfl k) ?_
  show Go p.tables e below s _ _ _ (T123.setTop (mkF m 347 #[.val (.long q1), .second, .val (.long q2), .second, .val (.int p3), .val (.ref b1), .val (.int (Int32.ofNat oo)), .val (.int (Int32.ofNat n)), .val (.int (own_fold ds oo n 11)), .unset] [(.int (Int32.ofNat oo)), (.ref b1), (.int (own_fold ds oo n 11))]))
  refine Go.on (fun t k => XS.iload X123.here hx rfl (hb hby at_347) rfl k) ?_
  show Go p.tables e below s _ _ _ (T123.setTop (mkF m 349 #[.val (.long q1), .second, .val (.long q2), .second, .val (.int p3), .val (.ref b1), .val (.int (Int32.ofNat oo)), .val (.int (Int32.ofNat n)), .val (.int (own_fold ds oo n 11)), .unset] [(.int (Int32.ofNat n)), (.int (Int32.ofNat oo)), (.ref b1), (.int (own_fold ds oo n 11))]))
  refine Go.on (fun t k => XS.bipush X123.here hx rfl (hb hby at_349) k) ?_
  show Go p.tables e below s _ _ _ (T123.setTop (mkF m 351 #[.val (.long q1), .second, .val (.long q2), .second, .val (.int p3), .val (.ref b1), .val (.int (Int32.ofNat oo)), .val (.int (Int32.ofNat n)), .val (.int (own_fold ds oo n 11)), .unset] [(.int (11 : Int32)), (.int (Int32.ofNat n)), (.int (Int32.ofNat oo)), (.ref b1), (.int (own_fold ds oo n 11))]))
  obtain ⟨_, _, ⟨T125, L125, k125, n125⟩, -, X125, ⟨Lc125, hQ125, l125, y125, z125⟩, st125⟩ := Jvm.LawKit.callS X123 hx (y := (⟨"com/example/tidewell/tidewell/engine/FieldTextTextHashPinLaw", "step", "(I[BIII)I"⟩ : MethodName)) hown (mvT hZ (hw _ (List.mem_of_getElem? (i := 6) rfl))) (mvT hZ (hw _ (List.mem_of_getElem? (i := 7) rfl))) (mvT hZ (hw _ (List.mem_of_getElem? (i := 3) rfl))) (mvT hZ (hw _ (List.mem_of_getElem? (i := 8) rfl))) (by decide) (backOf (W := 0) (rm2 l Z a0 hw [] (own_fold ds oo n 11) b1 (Int32.ofNat oo) (Int32.ofNat n) (11 : Int32) k1 ds oo n 11 h98 n0 Zp100 Vd_102 rfl rfl rfl ⟨ho, hn, by omega⟩) hZ (hw _ (List.mem_of_getElem? (i := 8) rfl)) (hw _ (List.mem_of_getElem? (i := 3) rfl)) (by decide) (by decide)) (g := (mkF m 351 #[.val (.long q1), .second, .val (.long q2), .second, .val (.int p3), .val (.ref b1), .val (.int (Int32.ofNat oo)), .val (.int (Int32.ofNat n)), .val (.int (own_fold ds oo n 11)), .unset] [(.int (11 : Int32)), (.int (Int32.ofNat n)), (.int (Int32.ofNat oo)), (.ref b1), (.int (own_fold ds oo n 11))])) rfl (by rw [hml]; rfl) (argsL := [(.int (own_fold ds oo n 11)), (.ref b1), (.int (Int32.ofNat oo)), (.int (Int32.ofNat n)), (.int (11 : Int32))]) (rest := []) (lenOf pd__40_I_91_BIII_41_I rfl) rfl (by show 2 * 0 + _ ≤ _; exact Nat.le_of_eq rfl) (hb hby at_351) (fun _ _ => ⟨rfl, e123, (by decide : ((((((((((((((((((((((((((((0 + 1) + 0) + 0) + 0) + 0) + 0) + 0) + 0) + 0) + 0) + 0) + 0) + 0) + 0) + 0) + 0) + 0) + 0) + 0) + 0) + 0) + 0) + 0) + 0) + 0) + 0) + 0) + 0) + 0 ≤ _), (by decide : ((((((((((((((((((((((((((((0 + 16) + 0) + 0) + 0) + 0) + 0) + 0) + 0) + 0) + 0) + 0) + 0) + 0) + 0) + 0) + 0) + 0) + 0) + 0) + 0) + 0) + 0) + 0) + 0) + 0) + 0) + 0) + 0) + 0 ≤ _)⟩)
  dsimp only [Pt.U, Pt.locs, Pt.cells, Pt.slots] at X125 l125 y125 z125 st125 hQ125
  rw [l125, y125, z125] at X125
  obtain ⟨rfl, Nq125, e125⟩ := hQ125
  have Np126 := Fr.app Np124 Nq125
  refine Go.on st125 ?_
  show Go p.tables e below s _ _ _ (T125.setTop (mkF m 354 #[.val (.long q1), .second, .val (.long q2), .second, .val (.int p3), .val (.ref b1), .val (.int (Int32.ofNat oo)), .val (.int (Int32.ofNat n)), .val (.int (own_fold ds oo n 11)), .unset] [(.int (own_fold ds oo n 12))]))
  refine Go.on (fun t k => XS.istore X125.here hx rfl (hb hby at_354) rfl (l' := #[.val (.long q1), .second, .val (.long q2), .second, .val (.int p3), .val (.ref b1), .val (.int (Int32.ofNat oo)), .val (.int (Int32.ofNat n)), .val (.int (own_fold ds oo n 12)), .unset]) rfl k) ?_
  show Go p.tables e below s _ _ _ (T125.setTop (mkF m 356 #[.val (.long q1), .second, .val (.long q2), .second, .val (.int p3), .val (.ref b1), .val (.int (Int32.ofNat oo)), .val (.int (Int32.ofNat n)), .val (.int (own_fold ds oo n 12)), .unset] []))
  obtain ⟨T127, h127, X127, e127, E127, A127, D127, -, st127⟩ := newO X125 hx hZ hown (hw _ (List.mem_of_getElem? (i := 9) rfl)) (hw _ (List.mem_of_getElem? (i := 10) rfl)) (hw _ (List.mem_of_getElem? (i := 11) rfl)) e125 (g := (mkF m 356 #[.val (.long q1), .second, .val (.long q2), .second, .val (.int p3), .val (.ref b1), .val (.int (Int32.ofNat oo)), .val (.int (Int32.ofNat n)), .val (.int (own_fold ds oo n 12)), .unset] [])) rfl (hb hby at_356) (by decide) (by decide)
  obtain ⟨b127, g127⟩ : ∃ z, z = h98.size := ⟨_, rfl⟩
  rw [← g127] at A127 D127 st127
  have ne128 : b1 ≠ b127 := Nat.ne_of_lt (Nat.lt_of_lt_of_eq Vd_102.lt g127.symm)
  have ge129 : n0 ≤ b127 := Nat.le_trans Zp100 (Nat.le_of_eq g127.symm)
  have Vd_131 := Vd_102.ext E127
  have Zp132 := Nat.le_trans Zp100 E127.1
  have Fbytes_133 : Fld Z h127 b127 "com/example/tidewell/tidewell/engine/CsvParser$FieldText" "bytes" "[B" .null := D127 (Or.inl (hw _ (List.mem_of_getElem? (i := 24) rfl))) (ty := (.array .byte)) (by decide)
  have Foffset_134 : Fld Z h127 b127 "com/example/tidewell/tidewell/engine/CsvParser$FieldText" "offset" "I" (.int (0 : Int32)) := D127 (Or.inl (hw _ (List.mem_of_getElem? (i := 26) rfl))) (ty := .int) (by decide)
  have Flength_135 : Fld Z h127 b127 "com/example/tidewell/tidewell/engine/CsvParser$FieldText" "length" "I" (.int (0 : Int32)) := D127 (Or.inl (hw _ (List.mem_of_getElem? (i := 28) rfl))) (ty := .int) (by decide)
  refine Go.on st127 ?_
  show Go p.tables e below s _ _ _ (T127.setTop (mkF m 359 #[.val (.long q1), .second, .val (.long q2), .second, .val (.int p3), .val (.ref b1), .val (.int (Int32.ofNat oo)), .val (.int (Int32.ofNat n)), .val (.int (own_fold ds oo n 12)), .unset] [(.ref b127)]))
  refine Go.on (fun t k => XS.dup X127.here hx rfl (hb hby at_359) rfl rfl k) ?_
  show Go p.tables e below s _ _ _ (T127.setTop (mkF m 360 #[.val (.long q1), .second, .val (.long q2), .second, .val (.int p3), .val (.ref b1), .val (.int (Int32.ofNat oo)), .val (.int (Int32.ofNat n)), .val (.int (own_fold ds oo n 12)), .unset] [(.ref b127), (.ref b127)]))
  obtain ⟨_, _, ⟨T136, L136, k136, n136⟩, -, X136, ⟨Lc136, hQ136, l136, y136, z136⟩, st136⟩ := X127.specialBack hx (y := (⟨"com/example/tidewell/tidewell/engine/CsvParser$FieldText", "<init>", "()V"⟩ : MethodName)) rfl hown (mvT hZ (hw _ (List.mem_of_getElem? (i := 12) rfl))) (mvT hZ (hw _ (List.mem_of_getElem? (i := 13) rfl))) (mvT hZ (hw _ (List.mem_of_getElem? (i := 14) rfl))) (by decide) (backOf (W := 1) (rm3 l Z a0 hw [] b127 h127 n0 Zp132 ) hZ (hw _ (List.mem_of_getElem? (i := 14) rfl)) (hw _ (List.mem_of_getElem? (i := 11) rfl)) (by decide) (by decide)) (g := (mkF m 360 #[.val (.long q1), .second, .val (.long q2), .second, .val (.int p3), .val (.ref b1), .val (.int (Int32.ofNat oo)), .val (.int (Int32.ofNat n)), .val (.int (own_fold ds oo n 12)), .unset] [(.ref b127), (.ref b127)])) rfl (by rw [hml]; rfl) (Steps.refl _) (a := b127) (argsL := []) (rest := [(.ref b127)]) (lenOf pd__40__41_V rfl) rfl (by show 2 * 0 + _ ≤ _; exact Nat.le_of_eq rfl) (hb hby at_360) (fun _ _ => ⟨rfl, e127, (by decide : ((((((((((((((((((((((((((((((0 + 1) + 0) + 0) + 0) + 0) + 0) + 0) + 0) + 0) + 0) + 0) + 0) + 0) + 0) + 0) + 0) + 0) + 0) + 0) + 0) + 0) + 0) + 0) + 0) + 0) + 0) + 0) + 0) + 0) + 1) + 0 ≤ _), (by decide : ((((((((((((((((((((((((((((((0 + 16) + 0) + 0) + 0) + 0) + 0) + 0) + 0) + 0) + 0) + 0) + 0) + 0) + 0) + 0) + 0) + 0) + 0) + 0) + 0) + 0) + 0) + 0) + 0) + 0) + 0) + 0) + 0) + 0) + 3) + 0 ≤ _)⟩)
  dsimp only [Pt.U, Pt.locs, Pt.cells, Pt.slots] at X136 l136 y136 z136 st136 hQ136
  rw [l136, y136, z136] at X136
  obtain ⟨rfl, Nq136, e136⟩ := hQ136
  have Np137 := Fr.app Np126 Nq136
  refine Go.via st136 ?_
  show Go p.tables e below s _ _ _ (T136.setTop (mkF m 363 #[.val (.long q1), .second, .val (.long q2), .second, .val (.int p3), .val (.ref b1), .val (.int (Int32.ofNat oo)), .val (.int (Int32.ofNat n)), .val (.int (own_fold ds oo n 12)), .unset] [(.ref b127)]))
  refine Go.on (fun t k => XS.astore X136.here hx rfl (hb hby at_363) rfl rfl (l' := #[.val (.long q1), .second, .val (.long q2), .second, .val (.int p3), .val (.ref b1), .val (.int (Int32.ofNat oo)), .val (.int (Int32.ofNat n)), .val (.int (own_fold ds oo n 12)), .val (.ref b127)]) rfl k) ?_
  show Go p.tables e below s _ _ _ (T136.setTop (mkF m 365 #[.val (.long q1), .second, .val (.long q2), .second, .val (.int p3), .val (.ref b1), .val (.int (Int32.ofNat oo)), .val (.int (Int32.ofNat n)), .val (.int (own_fold ds oo n 12)), .val (.ref b127)] []))
  refine Go.on (fun t k => XS.aload X136.here hx rfl (hb hby at_365) rfl rfl k) ?_
  show Go p.tables e below s _ _ _ (T136.setTop (mkF m 367 #[.val (.long q1), .second, .val (.long q2), .second, .val (.int p3), .val (.ref b1), .val (.int (Int32.ofNat oo)), .val (.int (Int32.ofNat n)), .val (.int (own_fold ds oo n 12)), .val (.ref b127)] [(.ref b127)]))
  refine Go.on (fun t k => XS.aload X136.here hx rfl (hb hby at_367) rfl rfl k) ?_
  show Go p.tables e below s _ _ _ (T136.setTop (mkF m 369 #[.val (.long q1), .second, .val (.long q2), .second, .val (.int p3), .val (.ref b1), .val (.int (Int32.ofNat oo)), .val (.int (Int32.ofNat n)), .val (.int (own_fold ds oo n 12)), .val (.ref b127)] [(.ref b1), (.ref b127)]))
  refine Go.on (fun t k => XS.iload X136.here hx rfl (hb hby at_369) rfl k) ?_
  show Go p.tables e below s _ _ _ (T136.setTop (mkF m 371 #[.val (.long q1), .second, .val (.long q2), .second, .val (.int p3), .val (.ref b1), .val (.int (Int32.ofNat oo)), .val (.int (Int32.ofNat n)), .val (.int (own_fold ds oo n 12)), .val (.ref b127)] [(.int (Int32.ofNat oo)), (.ref b1), (.ref b127)]))
  refine Go.on (fun t k => XS.iload X136.here hx rfl (hb hby at_371) rfl k) ?_
  show Go p.tables e below s _ _ _ (T136.setTop (mkF m 373 #[.val (.long q1), .second, .val (.long q2), .second, .val (.int p3), .val (.ref b1), .val (.int (Int32.ofNat oo)), .val (.int (Int32.ofNat n)), .val (.int (own_fold ds oo n 12)), .val (.ref b127)] [(.int (Int32.ofNat n)), (.int (Int32.ofNat oo)), (.ref b1), (.ref b127)]))
  obtain ⟨cq138, kq138, q138a, q138b, q138c⟩ := isOf hZ e136 A127
  obtain ⟨_, _, ⟨T138, L138, k138, n138⟩, -, X138, ⟨Lc138, hQ138, l138, y138, z138⟩, st138⟩ := X136.virtualBack hx (y := (⟨"com/example/tidewell/tidewell/engine/CsvParser$FieldText", "of", "([BII)Lcom/example/tidewell/tidewell/engine/CsvParser$FieldText;"⟩ : MethodName)) (z := (⟨"com/example/tidewell/tidewell/engine/CsvParser$FieldText", "of", "([BII)Lcom/example/tidewell/tidewell/engine/CsvParser$FieldText;"⟩ : MethodName)) hown (mvT hZ (hw _ (List.mem_of_getElem? (i := 18) rfl))) (mvT hZ (hw _ (List.mem_of_getElem? (i := 19) rfl))) (notFace_of_selects (args := #[]) (mvT hZ (hw _ (List.mem_of_getElem? (i := 21) rfl)))) (mvT hZ (hw _ (List.mem_of_getElem? (i := 21) rfl))) (mvT hZ (hw _ (List.mem_of_getElem? (i := 20) rfl))) (by decide) (backOf (W := 0) (rm5 l Z a0 hw [] b127 b1 (Int32.ofNat oo) (Int32.ofNat n) .null (.int (0 : Int32)) (.int (0 : Int32)) h127 n0 Zp132 A127 ge129 Fbytes_133 Foffset_134 Flength_135) hZ (hw _ (List.mem_of_getElem? (i := 22) rfl)) (hw _ (List.mem_of_getElem? (i := 11) rfl)) (by decide) (by decide)) q138a q138c (g := (mkF m 373 #[.val (.long q1), .second, .val (.long q2), .second, .val (.int p3), .val (.ref b1), .val (.int (Int32.ofNat oo)), .val (.int (Int32.ofNat n)), .val (.int (own_fold ds oo n 12)), .val (.ref b127)] [(.int (Int32.ofNat n)), (.int (Int32.ofNat oo)), (.ref b1), (.ref b127)])) rfl (by rw [hml]; rfl) (Steps.refl _) (argsL := [(.ref b1), (.int (Int32.ofNat oo)), (.int (Int32.ofNat n))]) (rest := []) (lenOf pd__40__91_BII_41_Lcom_47_example_47_tidewell_47_tidewell_47_engine_47_CsvParser_36_FieldText_59_ rfl) rfl (by show 2 * 0 + _ ≤ _; exact Nat.le_of_eq rfl) (hb hby at_373) (fun _ _ => ⟨rfl, e136, (by decide : (((((((((((((((((((((((((((((((0 + 1) + 0) + 0) + 0) + 0) + 0) + 0) + 0) + 0) + 0) + 0) + 0) + 0) + 0) + 0) + 0) + 0) + 0) + 0) + 0) + 0) + 0) + 0) + 0) + 0) + 0) + 0) + 0) + 0) + 1) + 0) + 0 ≤ _), (by decide : (((((((((((((((((((((((((((((((0 + 16) + 0) + 0) + 0) + 0) + 0) + 0) + 0) + 0) + 0) + 0) + 0) + 0) + 0) + 0) + 0) + 0) + 0) + 0) + 0) + 0) + 0) + 0) + 0) + 0) + 0) + 0) + 0) + 0) + 3) + 0) + 0 ≤ _)⟩)
  dsimp only [Pt.U, Pt.locs, Pt.cells, Pt.slots] at X138 l138 y138 z138 st138 hQ138
  rw [l138, y138, z138] at X138
  obtain ⟨rfl, Nq138, Kq138, P138_0, P138_1, P138_2⟩ := hQ138
  have Vd_139 := Vd_131.keep Kq138 (ninS ne128 nin0)
  have A127_140 := A127.keep Kq138
  have Zp141 := Nat.le_trans Zp132 Kq138.1
  have Np142 := Fr.app Np137 Nq138
  refine Go.via st138 ?_
  show Go p.tables e below s _ _ _ (T138.setTop (mkF m 376 #[.val (.long q1), .second, .val (.long q2), .second, .val (.int p3), .val (.ref b1), .val (.int (Int32.ofNat oo)), .val (.int (Int32.ofNat n)), .val (.int (own_fold ds oo n 12)), .val (.ref b127)] [(.ref b127)]))
  refine Go.on (fun t k => XS.pop X138.here hx rfl (hb hby at_376) rfl rfl k) ?_
  show Go p.tables e below s _ _ _ (T138.setTop (mkF m 377 #[.val (.long q1), .second, .val (.long q2), .second, .val (.int p3), .val (.ref b1), .val (.int (Int32.ofNat oo)), .val (.int (Int32.ofNat n)), .val (.int (own_fold ds oo n 12)), .val (.ref b127)] []))
  refine Go.on (fun t k => XS.aload X138.here hx rfl (hb hby at_377) rfl rfl k) ?_
  show Go p.tables e below s _ _ _ (T138.setTop (mkF m 379 #[.val (.long q1), .second, .val (.long q2), .second, .val (.int p3), .val (.ref b1), .val (.int (Int32.ofNat oo)), .val (.int (Int32.ofNat n)), .val (.int (own_fold ds oo n 12)), .val (.ref b127)] [(.ref b127)]))
  obtain ⟨cq143, kq143, q143a, q143b, q143c⟩ := isOf hZ rfl A127_140
  obtain ⟨_, _, ⟨T143, L143, k143, n143⟩, -, X143, ⟨Lc143, hQ143, l143, y143, z143⟩, st143⟩ := X138.virtualBack hx (y := (⟨"com/example/tidewell/tidewell/engine/CsvParser$FieldText", "textHash", "()I"⟩ : MethodName)) (z := (⟨"com/example/tidewell/tidewell/engine/CsvParser$FieldText", "textHash", "()I"⟩ : MethodName)) hown (mvT hZ (hw _ (List.mem_of_getElem? (i := 29) rfl))) (mvT hZ (hw _ (List.mem_of_getElem? (i := 30) rfl))) (notFace_of_selects (args := #[]) (mvT hZ (hw _ (List.mem_of_getElem? (i := 32) rfl)))) (mvT hZ (hw _ (List.mem_of_getElem? (i := 32) rfl))) (mvT hZ (hw _ (List.mem_of_getElem? (i := 31) rfl))) (by decide) (backOf (W := 0) (rm6 l Z a0 hw [] b127 b1 k1 ds oo n T138.heap n0 Zp141 P138_0 P138_1 P138_2 Vd_139 ⟨ho, hn⟩) hZ (hw _ (List.mem_of_getElem? (i := 33) rfl)) (hw _ (List.mem_of_getElem? (i := 11) rfl)) (by decide) (by decide)) q143a q143c (g := (mkF m 379 #[.val (.long q1), .second, .val (.long q2), .second, .val (.int p3), .val (.ref b1), .val (.int (Int32.ofNat oo)), .val (.int (Int32.ofNat n)), .val (.int (own_fold ds oo n 12)), .val (.ref b127)] [(.ref b127)])) rfl (by rw [hml]; rfl) (Steps.refl _) (argsL := []) (rest := []) (lenOf pd__40__41_I rfl) rfl (by show 2 * 0 + _ ≤ _; exact Nat.le_of_eq rfl) (hb hby at_379) (fun _ _ => ⟨rfl, rfl, (by decide : ((((((((((((((((((((((((((((((((0 + 1) + 0) + 0) + 0) + 0) + 0) + 0) + 0) + 0) + 0) + 0) + 0) + 0) + 0) + 0) + 0) + 0) + 0) + 0) + 0) + 0) + 0) + 0) + 0) + 0) + 0) + 0) + 0) + 0) + 1) + 0) + 0) + 0 ≤ _), (by decide : ((((((((((((((((((((((((((((((((0 + 16) + 0) + 0) + 0) + 0) + 0) + 0) + 0) + 0) + 0) + 0) + 0) + 0) + 0) + 0) + 0) + 0) + 0) + 0) + 0) + 0) + 0) + 0) + 0) + 0) + 0) + 0) + 0) + 0) + 3) + 0) + 0) + 0 ≤ _)⟩)
  dsimp only [Pt.U, Pt.locs, Pt.cells, Pt.slots] at X143 l143 y143 z143 st143 hQ143
  rw [l143, y143, z143] at X143
  obtain ⟨rfl, Nq143, e143⟩ := hQ143
  have Np144 := Fr.app Np142 Nq143
  refine Go.via st143 ?_
  show Go p.tables e below s _ _ _ (T143.setTop (mkF m 382 #[.val (.long q1), .second, .val (.long q2), .second, .val (.int p3), .val (.ref b1), .val (.int (Int32.ofNat oo)), .val (.int (Int32.ofNat n)), .val (.int (own_fold ds oo n 12)), .val (.ref b127)] [(.int (own_h ds oo n))]))
  refine Go.on (fun t k => XS.iload X143.here hx rfl (hb hby at_382) rfl k) ?_
  show Go p.tables e below s _ _ _ (T143.setTop (mkF m 384 #[.val (.long q1), .second, .val (.long q2), .second, .val (.int p3), .val (.ref b1), .val (.int (Int32.ofNat oo)), .val (.int (Int32.ofNat n)), .val (.int (own_fold ds oo n 12)), .val (.ref b127)] [(.int (own_fold ds oo n 12)), (.int (own_h ds oo n))]))
  refine Go.on (fun t k => XS.icmpNo X143.here hx rfl (hb hby at_384) rfl (teq (own_end ds hn)).2 k) ?_
  show Go p.tables e below s _ _ _ (T143.setTop (mkF m 387 #[.val (.long q1), .second, .val (.long q2), .second, .val (.int p3), .val (.ref b1), .val (.int (Int32.ofNat oo)), .val (.int (Int32.ofNat n)), .val (.int (own_fold ds oo n 12)), .val (.ref b127)] []))
  refine Go.on (fun t k => XS.iconst X143.here hx rfl (hb hby at_387) k) ?_
  show Go p.tables e below s _ _ _ (T143.setTop (mkF m 388 #[.val (.long q1), .second, .val (.long q2), .second, .val (.int p3), .val (.ref b1), .val (.int (Int32.ofNat oo)), .val (.int (Int32.ofNat n)), .val (.int (own_fold ds oo n 12)), .val (.ref b127)] [(.int (1 : Int32))]))
  refine Go.on (fun t k => XS.goto X143.here hx rfl (pc0 := 388) (pc' := 392) rfl (hb hby at_388) (by decide) (by decide) k) ?_
  show Go p.tables e below s _ _ _ (T143.setTop (mkF m 392 #[.val (.long q1), .second, .val (.long q2), .second, .val (.int p3), .val (.ref b1), .val (.int (Int32.ofNat oo)), .val (.int (Int32.ofNat n)), .val (.int (own_fold ds oo n 12)), .val (.ref b127)] [(.int (1 : Int32))]))
  refine Go.retN X143 hx hlk (t := .boolean) Bd.returns (by simp) (hb hby at_392) (by decide) (by decide) e143 ?_
  exact ⟨rfl, Np144⟩
set_option maxRecDepth 65536 in
set_option maxHeartbeats 40000000 in
theorem comes_1 {Post : Tables → Env → Array Value → State → Outcome → State → Prop} (hpost : ∀ tb e args s v u, (limb_1_1.after args s (.returned v) u = true ∧ limb_1_2.after args s (.returned v) u = true ∧ True) → FrameEnd s (.returned v) u (Jvm.fieldLocs frame_1_writes args s ++ Jvm.arrayLocs frame_1_arrays args s ++ Jvm.staticLocs frame_1_statics s) 16 128 → Post tb e args s (.returned v) u) :
    ArmFor flags0 classFile x code maxLocals ret World_1 tables_1 room_1 Calls_1 rest_1 Pre_1 Post := by
  intro l hfl _ _ p e ha hc hk s m args below hf hA hF happ hP
  obtain ⟨hcalls, hrest, hpre⟩ := hP
  obtain ⟨-, -, -, hnamed, -, -, -, hat⟩ := (Spec.applies_iff hf).mp happ
  obtain ⟨hg, hn⟩ := and_e (Cond.before_iff.mp (show (Jvm.Cond.and given_1 narrow_1).before args s = true from hpre))
  obtain ⟨gg1, gg2⟩ := and_e hg
  obtain ⟨gg3, gg4⟩ := and_e gg2
  obtain ⟨gg5, gg6⟩ := and_e gg4
  obtain ⟨w0, w1, w2, rfl⟩ : ∃ w0 w1 w2 : Value, args = #[w0, w1, w2] := by
    have hs : args.size = 3 := by simpa [Cond.value, given_1] using gg1
    obtain ⟨L⟩ := args
    match L, hs with
    | [w0, w1, w2], _ => exact ⟨w0, w1, w2, rfl⟩
  have hw := fun d (hd : d ∈ tables_1) => atoms_spec (ws := Jvm.Cond.code x code maxLocals ret :: tables_1) hat d (List.mem_cons_of_mem _ hd)
  have hfit : Fit s := fun {y c} hc i hi => by
    obtain ⟨ha, rfl⟩ := Array.getElem?_eq_some_iff.mp hc
    have q := List.all_eq_true.mp ((Array.all_eq_true_iff_forall_mem.mp hF) _ (Array.getElem_mem ha)) i (List.mem_range.mpr hi)
    simpa [Array.getElem?_eq_getElem hi] using q
  obtain ⟨i0, ei0⟩ := isL_v gg3
  obtain rfl : w0 = (.long i0) := Option.some.inj ei0
  obtain ⟨i1, ei1⟩ := isL_v gg5
  obtain rfl : w1 = (.long i1) := Option.some.inj ei1
  obtain ⟨i2, ei2⟩ := is_v gg6
  obtain rfl : w2 = (.int i2) := Option.some.inj ei2
  obtain ⟨n, o, h1, h2, h3, _, L, rfl, ⟨rfl, N⟩, hq⟩ := rm0 l s _ hw tables_1 i0 i1 i2  s.heap s.heap.size (Nat.le_refl _)  p e ha hc hk s m _ below hf ((Spec.applies_iff_loose hf).mp happ).1 ⟨rfl, State.Warmed39.refl s, rfl⟩ trivial
  refine ⟨n, _, h1, h2, h3, hpost _ _ _ _ _ _ ⟨Cond.after_iff.mpr rfl, Cond.after_iff.mpr (eq_i res_at (Term.int_eval (1)) rfl), trivial⟩ ⟨hq.1, hq.2.1, (hq.2.2.sift fun y hy => Or.inr (N y hy)).mono (by decide) (by decide)⟩⟩
theorem main_1_1 : Claimed_1_1 := comes_1 fun _ _ _ _ _ _ h hF => ⟨h.1, hF⟩
theorem main_1_2 : Claimed_1_2 := comes_1 fun _ _ _ _ _ _ h hF => ⟨h.2.1, hF⟩
end Jvm.Pilot.@@N@@
namespace Jvm.Pilot.@@N@@
open Jvm Jvm.ClassFile Sem Op Lib Jvm.Free Jvm.Stand Jvm.Pilot.@@N@@.Jvm.D
/-! MADE BY PROGRAM (witnessworld.py) out of the Statement's table words and the real class files: 10 classes; the members and pool entries that the words name. The judged class is class 1, her method 3. -/
namespace start1
open Jvm.ClassFile
def u (s : String) : CpInfo := .utf8 (stringToUtf16 s)
/-- a pool by its gaps: so many unusable entries, then the entry; so many at the end -/
def gap : Nat → List CpInfo → List CpInfo
  | 0, r => r
  | n + 1, r => .unusable :: gap n r
def poolList (es : List (Nat × CpInfo)) (last : Nat) : List CpInfo := es.foldr (fun e r => gap e.1 (e.2 :: r)) (gap last [])
def pool (es : List (Nat × CpInfo)) (last : Nat) : Array CpInfo := ⟨poolList es last⟩
def fileOf (pool : Array CpInfo) (this : Nat) (attrs : Array Attribute := #[]) (ms : Array MethodInfo := #[]) (fl : Nat := 33) (sup : Nat := 0) (ifs : Array Nat := #[]) (fds : Array FieldInfo := #[]) : ClassFile where
  minorVersion := 0
  majorVersion := 65
  constantPool := pool
  accessFlags := fl
  thisClass := this
  superClass := sup
  interfaces := ifs
  fields := fds
  methods := ms
  attributes := attrs
def plain (name : String) (sup : Option ClassId) : Class where
  name := name
  kind := .ordinary
  loader := none
  accessFlags := 33
  super := sup
  interfaces := #[]
  cf := none
  fields := #[]
  methods := #[]
  instanceTypes := #[]
  staticTypes := #[]
  resolved := #[]
  callSites := []
  init := .initialized
  statics := none
  mirror := none

def pool0 : Array CpInfo := pool [(5, u "<init>"), (0, u "()V"), (1, .class_ 10), (1, u "java/lang/Object")] 113

def k0c0 : Code := { maxStack := 0, maxLocals := 1, code := object_method_1_code, exceptionTable := #[], attributes := #[] }
def k0m0 : Method := { name := "<init>", desc := "()V", sig := { parameters := [], returnType := none }, accessFlags := 1, code := some k0c0 }
/-- java/lang/Object -/
def k0 : Class := { plain "java/lang/Object" none with
  accessFlags := 33
  interfaces := #[]
  cf := some (fileOf pool0 8 #[] #[{ accessFlags := 1, nameIndex := 5, descriptorIndex := 6, attributes := #[] }] 33 0 #[] #[])
  fields := #[]
  methods := #[k0m0]
  instanceTypes := #[]
  staticTypes := #[]
  resolved := Array.replicate 124 none
  statics := none }

def pool1 : Array CpInfo := pool [(2, .class_ 4), (0, .nameAndType 5 6), (0, u "java/lang/Object"), (0, u "<init>"), (0, u "()V"), (0, .long 127), (1, .methodref 10 11), (0, .class_ 12), (0, .nameAndType 13 14), (0, u "com/example/tidewell/tidewell/engine/FieldTextTextHashPinLaw"), (0, u "b"), (0, u "(JI)B"), (0, .methodref 10 16), (0, .nameAndType 17 18), (0, u "step"), (0, u "(I[BIII)I"), (0, .class_ 20), (0, u "com/example/tidewell/tidewell/engine/CsvParser$FieldText"), (0, .methodref 19 3), (0, .methodref 19 23), (0, .nameAndType 24 25), (0, u "of"), (0, u "([BII)Lcom/example/tidewell/tidewell/engine/CsvParser$FieldText;"), (0, .methodref 19 27), (0, .nameAndType 28 29), (0, u "textHash"), (0, u "()I"), (3, u "law"), (0, u "(JJI)Z")] 8

def k1m0 : Method := { name := "<init>", desc := "()V", sig := { parameters := [], returnType := none }, accessFlags := 1, code := none }
def k1c1 : Code := { maxStack := 4, maxLocals := 3, code := method_2_code, exceptionTable := #[], attributes := #[] }
def k1m1 : Method := { name := "b", desc := "(JI)B", sig := { parameters := [.long, .int], returnType := some .byte }, accessFlags := 10, code := some k1c1 }
def k1c2 : Code := { maxStack := 4, maxLocals := 5, code := method_3_code, exceptionTable := #[], attributes := #[] }
def k1m2 : Method := { name := "step", desc := "(I[BIII)I", sig := { parameters := [.int, (.array .byte), .int, .int, .int], returnType := some .int }, accessFlags := 10, code := some k1c2 }
def k1c3 : Code := { maxStack := 5, maxLocals := 10, code := code, exceptionTable := #[], attributes := #[] }
def k1m3 : Method := { name := "law", desc := "(JJI)Z", sig := { parameters := [.long, .long, .int], returnType := some .boolean }, accessFlags := 9, code := some k1c3 }
/-- com/example/tidewell/tidewell/engine/FieldTextTextHashPinLaw -/
def k1 : Class := { plain "com/example/tidewell/tidewell/engine/FieldTextTextHashPinLaw" (some 0) with
  accessFlags := 49
  interfaces := #[]
  cf := some (fileOf pool1 10 #[] #[{ accessFlags := 1, nameIndex := 5, descriptorIndex := 6, attributes := #[] }, { accessFlags := 10, nameIndex := 13, descriptorIndex := 14, attributes := #[] }, { accessFlags := 10, nameIndex := 17, descriptorIndex := 18, attributes := #[] }, { accessFlags := 9, nameIndex := 33, descriptorIndex := 34, attributes := #[] }] 49 2 #[] #[])
  fields := #[]
  methods := #[k1m0, k1m1, k1m2, k1m3]
  instanceTypes := #[]
  staticTypes := #[]
  resolved := Array.replicate 43 none
  statics := none }

def pool2 : Array CpInfo := pool [(2, .class_ 4), (1, u "java/lang/CharSequence"), (42, .class_ 48), (0, u "java/lang/CharSequence$1CodePointIterator"), (10, .class_ 60), (0, u "java/lang/CharSequence$1CharIterator"), (5, .class_ 67), (0, u "java/lang/Object")] 63

/-- java/lang/CharSequence -/
def k2 : Class := { plain "java/lang/CharSequence" (some 0) with
  accessFlags := 1537
  interfaces := #[]
  cf := some (fileOf pool2 2 #[.nestMembers #[47, 59]] #[] 1537 66 #[] #[])
  fields := #[]
  methods := #[]
  instanceTypes := #[]
  staticTypes := #[]
  resolved := Array.replicate 131 none
  statics := none }

def pool3 : Array CpInfo := pool [(1, .methodref 2 3), (0, .class_ 4), (0, .nameAndType 5 6), (0, u "java/lang/Object"), (0, u "<init>"), (0, u "()V"), (0, .fieldref 8 9), (0, .class_ 10), (0, .nameAndType 11 12), (0, u "com/example/tidewell/tidewell/engine/CsvParser$FieldText"), (0, u "bytes"), (0, u "[B"), (0, .fieldref 8 14), (0, .nameAndType 15 16), (0, u "offset"), (0, u "I"), (0, .fieldref 8 18), (0, .nameAndType 19 16), (0, u "length"), (0, .integer 923521), (30, .class_ 52), (0, u "java/lang/CharSequence"), (2, u "of"), (0, u "([BII)Lcom/example/tidewell/tidewell/engine/CsvParser$FieldText;"), (0, u "()I"), (0, u "textHash"), (8, .class_ 68), (0, u "com/example/tidewell/tidewell/engine/CsvParser")] 2

def k3c0 : Code := { maxStack := 1, maxLocals := 1, code := prog_31_method_1_code, exceptionTable := #[], attributes := #[] }
def k3m0 : Method := { name := "<init>", desc := "()V", sig := { parameters := [], returnType := none }, accessFlags := 0, code := some k3c0 }
def k3c1 : Code := { maxStack := 2, maxLocals := 4, code := prog_31_method_2_code, exceptionTable := #[], attributes := #[] }
def k3m1 : Method := { name := "of", desc := "([BII)Lcom/example/tidewell/tidewell/engine/CsvParser$FieldText;", sig := { parameters := [(.array .byte), .int, .int], returnType := some (.object "com/example/tidewell/tidewell/engine/CsvParser$FieldText") }, accessFlags := 0, code := some k3c1 }
def k3c2 : Code := { maxStack := 4, maxLocals := 4, code := prog_31_method_4_code, exceptionTable := #[], attributes := #[] }
def k3m2 : Method := { name := "textHash", desc := "()I", sig := { parameters := [], returnType := some .int }, accessFlags := 0, code := some k3c2 }
/-- com/example/tidewell/tidewell/engine/CsvParser$FieldText -/
def k3 : Class := { plain "com/example/tidewell/tidewell/engine/CsvParser$FieldText" (some 0) with
  accessFlags := 48
  interfaces := #[2]
  cf := some (fileOf pool3 8 #[.nestHost 67] #[{ accessFlags := 0, nameIndex := 5, descriptorIndex := 6, attributes := #[] }, { accessFlags := 0, nameIndex := 55, descriptorIndex := 56, attributes := #[] }, { accessFlags := 0, nameIndex := 58, descriptorIndex := 57, attributes := #[] }] 48 2 #[51] #[{ accessFlags := 2, nameIndex := 11, descriptorIndex := 12, attributes := #[] }, { accessFlags := 2, nameIndex := 15, descriptorIndex := 16, attributes := #[] }, { accessFlags := 2, nameIndex := 19, descriptorIndex := 16, attributes := #[] }])
  fields := #[{ name := "bytes", type := (.array .byte), accessFlags := 2, slot := 0, constantValue := 0 }, { name := "offset", type := .int, accessFlags := 2, slot := 1, constantValue := 0 }, { name := "length", type := .int, accessFlags := 2, slot := 2, constantValue := 0 }]
  methods := #[k3m0, k3m1, k3m2]
  instanceTypes := #[(.array .byte), .int, .int]
  staticTypes := #[]
  resolved := Array.replicate 71 none
  statics := none }

def pool4 : Array CpInfo := pool [(1, u "java/lang/Cloneable"), (0, .class_ 1), (0, u "java/lang/Object"), (0, .class_ 3)] 3

/-- java/lang/Cloneable -/
def k4 : Class := { plain "java/lang/Cloneable" (some 0) with
  accessFlags := 1537
  interfaces := #[]
  cf := some (fileOf pool4 2 #[] #[] 1537 4 #[] #[])
  fields := #[]
  methods := #[]
  instanceTypes := #[]
  staticTypes := #[]
  resolved := Array.replicate 8 none
  statics := none }

def pool5 : Array CpInfo := pool [(1, u "java/io/Serializable"), (0, .class_ 1), (0, u "java/lang/Object"), (0, .class_ 3)] 3

/-- java/io/Serializable -/
def k5 : Class := { plain "java/io/Serializable" (some 0) with
  accessFlags := 1537
  interfaces := #[]
  cf := some (fileOf pool5 2 #[] #[] 1537 4 #[] #[])
  fields := #[]
  methods := #[]
  instanceTypes := #[]
  staticTypes := #[]
  resolved := Array.replicate 8 none
  statics := none }

/-- the primitive byte -/
def k6 : Class := { plain "byte" none with kind := .primitive 'B', accessFlags := 0x411 }
/-- [B -/
def k7 : Class := { plain "[B" (some 0) with kind := .array 6 .byte, interfaces := #[4, 5], accessFlags := 1041 }

/-- the primitive int -/
def k8 : Class := { plain "int" none with kind := .primitive 'I', accessFlags := 0x411 }
/-- [I -/
def k9 : Class := { plain "[I" (some 0) with kind := .array 8 .int, interfaces := #[4, 5], accessFlags := 1041 }

def heap : Heap := #[]
def classes : Array Class := #[k0, k1, k2, k3, k4, k5, k6, k7, k8, k9]
def interned : List (Array UInt16 × Addr) := []
def slotsUsed : Nat := 0
def theMethod : MethodId := ⟨1, 3⟩
def args0 : Array Value := #[.long 5, .long 7, .int 3]
def aboutOver (below : List Frame) : State where
  vm := { classes := classes, interned := interned.toArray }
  heap := heap
  slotsUsed := slotsUsed
  threads := #[{ frames := .invoking theMethod args0 :: below }]
def below0 : List Frame := [.native { method := ⟨0, 0⟩, args := #[] }]
def about1 : State := aboutOver below0
def p0 : Program := .bare "" "" ""
def e0 : Env := launch0.env 0 0 0
theorem w_frames : about1.frames = Frame.invoking theMethod args0 :: below0 := rfl
set_option maxRecDepth 65536 in
theorem w_args : argsFit about1.vm theMethod args0 = true := by decide +kernel
set_option maxRecDepth 65536 in
theorem w_heap : heapFits about1 = true := by decide +kernel
set_option maxRecDepth 65536 in
theorem w_runnable : about1.curStatus? = some .runnable := by decide +kernel
set_option maxRecDepth 65536 in
theorem w_alone : about1.alone = true := by decide +kernel
set_option maxRecDepth 65536 in
theorem w_named : about1.methodNamed? x = some theMethod := by decide +kernel
set_option maxRecDepth 65536 in
theorem w_hears : about1.hears theMethod below0 = true := by decide +kernel
set_option maxRecDepth 65536 in
theorem w_ripe : about1.ripe theMethod args0 below0 = true := by decide +kernel
theorem w_running : about1.status = .running := rfl
set_option maxRecDepth 65536 in
theorem w_room : about1.hasRoom e0.platform room_1 = true :=
  launch0.hasRoom_least _ room_1 (by decide +kernel) (by decide +kernel) (by decide +kernel) (by decide +kernel) (by decide +kernel) (by decide +kernel)
theorem allAtoms_all (ts : List Jvm.Cond) (a : Array Jvm.Value) (st : Jvm.State) : (allAtoms ts).before a st = ts.all (fun c => c.before a st) := by
  induction ts with
  | nil => rfl
  | cons c t ih =>
    show (Jvm.Cond.and c (allAtoms t)).before a st = _
    rw [Jvm.Cond.before_and, ih, List.all_cons]
def words1 : List Jvm.Cond := Jvm.Cond.code x code maxLocals ret :: tables_1
/-- a 'code' word, met by the world's own term for the bytes: nothing is compared byte by byte -/
theorem code_word {y : MethodName} {bytes : ByteArray} {mx : Nat} {rt : Option FieldType} {a : Array Value} {s : State} {m : MethodId} {meth : Method} {c : Code} (h1 : s.methodNamed? y = some m) (h2 : s.vm.method? m = some meth) (h3 : meth.code = some c) (h4 : c.code = bytes)
    (h5 : (c.maxLocals == mx && c.exceptionTable.isEmpty && decide (c.maxStack ≤ mostOperands) && decide (meth.sig.returnType = rt) && !meth.locks && decide (parseMethodDescriptor y.desc = some meth.sig)) = true) : (Jvm.Cond.code y bytes mx rt).before a s = true := by
  simp only [Bool.and_eq_true, beq_iff_eq, Bool.not_eq_true', decide_eq_true_eq] at h5
  obtain ⟨⟨⟨⟨⟨g1, g2⟩, g3⟩, g4⟩, g5⟩, g6⟩ := h5
  simp [Cond.before, Cond.holds, Cond.value, h1, h2, h3, h4, g1, g2, g3, g4, g5, g6]
def isCode : Jvm.Cond → Bool
  | .code _ _ _ _ => true
  | _ => false
theorem all_split {L : List Jvm.Cond} {P : Jvm.Cond → Bool} (h1 : L.all (fun c => isCode c || P c) = true) (h2 : ∀ c ∈ L.filter isCode, P c = true) : L.all P = true := by
  refine List.all_eq_true.mpr fun c hc => ?_
  have h := List.all_eq_true.mp h1 c hc
  rcases Bool.eq_false_or_eq_true (isCode c) with hi | hi
  · exact h2 c (List.mem_filter.mpr ⟨hc, hi⟩)
  · simpa [hi] using h
set_option maxRecDepth 65536 in
theorem w_c0 : (Jvm.Cond.code x code maxLocals ret).before args0 about1 = true := code_word (m := ⟨1, 3⟩) (meth := k1m3) (c := k1c3) (by decide +kernel) rfl rfl rfl (by decide +kernel)
set_option maxRecDepth 65536 in
theorem w_c1 : (Jvm.Cond.code ({ cls := "com/example/tidewell/tidewell/engine/FieldTextTextHashPinLaw", name := "b", desc := "(JI)B" } : Jvm.MethodName) method_2_code (3 : Nat) (Option.some Jvm.ClassFile.FieldType.byte)).before args0 about1 = true := code_word (m := ⟨1, 1⟩) (meth := k1m1) (c := k1c1) (by decide +kernel) rfl rfl rfl (by decide +kernel)
set_option maxRecDepth 65536 in
theorem w_c2 : (Jvm.Cond.code ({ cls := "com/example/tidewell/tidewell/engine/FieldTextTextHashPinLaw", name := "step", desc := "(I[BIII)I" } : Jvm.MethodName) method_3_code (5 : Nat) (Option.some Jvm.ClassFile.FieldType.int)).before args0 about1 = true := code_word (m := ⟨1, 2⟩) (meth := k1m2) (c := k1c2) (by decide +kernel) rfl rfl rfl (by decide +kernel)
set_option maxRecDepth 65536 in
theorem w_c3 : (Jvm.Cond.code ({ cls := "com/example/tidewell/tidewell/engine/CsvParser$FieldText", name := "<init>", desc := "()V" } : Jvm.MethodName) prog_31_method_1_code (1 : Nat) (Option.none : Option Jvm.ClassFile.FieldType)).before args0 about1 = true := code_word (m := ⟨3, 0⟩) (meth := k3m0) (c := k3c0) (by decide +kernel) rfl rfl rfl (by decide +kernel)
set_option maxRecDepth 65536 in
theorem w_c4 : (Jvm.Cond.code ({ cls := "java/lang/Object", name := "<init>", desc := "()V" } : Jvm.MethodName) object_method_1_code (1 : Nat) (Option.none : Option Jvm.ClassFile.FieldType)).before args0 about1 = true := code_word (m := ⟨0, 0⟩) (meth := k0m0) (c := k0c0) (by decide +kernel) rfl rfl rfl (by decide +kernel)
set_option maxRecDepth 65536 in
theorem w_c5 : (Jvm.Cond.code ({ cls := "com/example/tidewell/tidewell/engine/CsvParser$FieldText", name := "of", desc := "([BII)Lcom/example/tidewell/tidewell/engine/CsvParser$FieldText;" } : Jvm.MethodName) prog_31_method_2_code (4 : Nat) (Option.some (Jvm.ClassFile.FieldType.object "com/example/tidewell/tidewell/engine/CsvParser$FieldText"))).before args0 about1 = true := code_word (m := ⟨3, 1⟩) (meth := k3m1) (c := k3c1) (by decide +kernel) rfl rfl rfl (by decide +kernel)
set_option maxRecDepth 65536 in
theorem w_c6 : (Jvm.Cond.code ({ cls := "com/example/tidewell/tidewell/engine/CsvParser$FieldText", name := "textHash", desc := "()I" } : Jvm.MethodName) prog_31_method_4_code (4 : Nat) (Option.some Jvm.ClassFile.FieldType.int)).before args0 about1 = true := code_word (m := ⟨3, 2⟩) (meth := k3m2) (c := k3c2) (by decide +kernel) rfl rfl rfl (by decide +kernel)
def codes1 : List Jvm.Cond := [Jvm.Cond.code x code maxLocals ret, Jvm.Cond.code ({ cls := "com/example/tidewell/tidewell/engine/FieldTextTextHashPinLaw", name := "b", desc := "(JI)B" } : Jvm.MethodName) method_2_code (3 : Nat) (Option.some Jvm.ClassFile.FieldType.byte), Jvm.Cond.code ({ cls := "com/example/tidewell/tidewell/engine/FieldTextTextHashPinLaw", name := "step", desc := "(I[BIII)I" } : Jvm.MethodName) method_3_code (5 : Nat) (Option.some Jvm.ClassFile.FieldType.int), Jvm.Cond.code ({ cls := "com/example/tidewell/tidewell/engine/CsvParser$FieldText", name := "<init>", desc := "()V" } : Jvm.MethodName) prog_31_method_1_code (1 : Nat) (Option.none : Option Jvm.ClassFile.FieldType), Jvm.Cond.code ({ cls := "java/lang/Object", name := "<init>", desc := "()V" } : Jvm.MethodName) object_method_1_code (1 : Nat) (Option.none : Option Jvm.ClassFile.FieldType), Jvm.Cond.code ({ cls := "com/example/tidewell/tidewell/engine/CsvParser$FieldText", name := "of", desc := "([BII)Lcom/example/tidewell/tidewell/engine/CsvParser$FieldText;" } : Jvm.MethodName) prog_31_method_2_code (4 : Nat) (Option.some (Jvm.ClassFile.FieldType.object "com/example/tidewell/tidewell/engine/CsvParser$FieldText")), Jvm.Cond.code ({ cls := "com/example/tidewell/tidewell/engine/CsvParser$FieldText", name := "textHash", desc := "()I" } : Jvm.MethodName) prog_31_method_4_code (4 : Nat) (Option.some Jvm.ClassFile.FieldType.int)]
set_option maxRecDepth 65536 in
theorem codes_eq : words1.filter isCode = codes1 := rfl
theorem w_codes : ∀ c ∈ words1.filter isCode, c.before args0 about1 = true := by
  rw [codes_eq]
  intro c hc
  simp only [codes1, List.mem_cons, List.not_mem_nil, or_false] at hc
  rcases hc with rfl | rfl | rfl | rfl | rfl | rfl | rfl
  · exact w_c0
  · exact w_c1
  · exact w_c2
  · exact w_c3
  · exact w_c4
  · exact w_c5
  · exact w_c6
set_option maxRecDepth 65536 in
theorem w_t1 : (words1.take 24).all (fun c => isCode c || c.before args0 about1) = true := by decide +kernel
set_option maxRecDepth 65536 in
theorem w_t2 : (words1.drop 24).all (fun c => isCode c || c.before args0 about1) = true := by decide +kernel
theorem w_tables : (allAtoms (Jvm.Cond.code x code maxLocals ret :: tables_1)).before args0 about1 = true := by
  rw [allAtoms_all]
  show words1.all (fun c => c.before args0 about1) = true
  refine all_split ?_ w_codes
  rw [← List.take_append_drop 24 words1, List.all_append, w_t1, w_t2]
  rfl
set_option maxRecDepth 65536 in
theorem w_case : (Jvm.Cond.and given_1 narrow_1).before args0 about1 = true := by decide +kernel
theorem w_applies : (headSpec (Jvm.Cond.code x code maxLocals ret :: tables_1) room_1).applies x e0.platform about1 = true :=
  (Spec.applies_iff w_frames).mpr ⟨w_running, w_runnable, w_alone, w_named, w_hears, w_ripe, w_room, w_tables⟩
theorem atStart : AtStart classFile x code maxLocals ret World_1 tables_1 room_1 Calls_1 rest_1 Pre_1 launch0 p0 e0 about1 theMethod args0 below0 :=
  ⟨lists_1, trivial, launch0.admits_env _ _ _, launch0.least_env, fairChoices_fair.cas, fairChoices_fair.clock, w_frames, w_args, w_heap, w_applies, trivial, trivial, w_case⟩
end start1
theorem witness_1 : WitnessClaimed_1 := ⟨start1.p0, start1.e0, start1.about1, start1.theMethod, start1.args0, start1.below0, start1.atStart⟩
end Jvm.Pilot.@@N@@
