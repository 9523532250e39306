import JvmDerived
import JvmDerived.Pilot.@@N@@Statement
import JvmDerived.Pilot.@@N@@Code
set_option linter.unusedVariables false
set_option linter.unusedSimpArgs false
namespace Jvm.RoadKit
open Sem ClassFile Op Lib Jvm.Stand Jvm.Free Jvm.LawKit
section New
variable {p : Program} {l : Launch} {e : Env} {R : Room} {s : State} {m : MethodId} {args : Array Value} {below : List Frame} {meth : Method} {c : Code} {T : State} {locs : List Loc} {cells slots : Nat}
theorem retI (X : Stand p l e R s m args below meth c T locs cells slots) (hx : p.tables.exec = Jvm.exec) {pc : Nat} {Ls : Array Slot} {z : Int32} {rest : List Value} (hret : meth.sig.returnType = some .int) (hd : decode c.code pc = .ok (.ireturn, 1)) {fs : List Frame}
    (hl : ∀ (f : JFrame) (acts : List Action), f.method = m → f.locked = none → f.entered = [] → (doReturn e (T.setTop f) acts (some (.int z))).1 = T.setFrames fs) : Steps p.tables e below (T.setTop (mkF m pc Ls (.int z :: rest))) (T.setFrames fs) := by
  have hm' : T.vm.method? m = some meth := X.method'
  have hn : narrow .int (.int z) = .int z := rfl
  show Steps p.tables e below (T.setTop { method := m, pc := pc, locals := Ls, stack := _ :: rest, locked := none }) _
  jvm_step X.here [X.here.top, hx, hd, hm', hret, hn]
  first | (intro acts; rw [hl _ acts rfl rfl rfl]) | rw [hl _ _ rfl rfl rfl]
  exact Steps.refl _
/-- from the state A the body comes to its end, and what it leaves is Q's -/
def Go (tb : Tables) (e : Env) (below : List Frame) (s : State) (Q : Option Value → Heap → List Loc → Prop) (k n : Nat) (A : State) : Prop :=
  ∃ s₂ o, Steps tb e below A s₂ ∧ s₂.status = .running ∧ Ended s₂ below o ∧ ∃ v L, o = .returned v ∧ Q v s₂.heap L ∧ FrameEnd s o s₂ L k n
theorem Go.on {tb : Tables} {Q : Option Value → Heap → List Loc → Prop} {k n : Nat} {A B : State} (h : ∀ t, Steps tb e below B t → Steps tb e below A t) (g : Go tb e below s Q k n B) : Go tb e below s Q k n A := by
  obtain ⟨s₂, o, h1, h2⟩ := g
  exact ⟨s₂, o, h _ h1, h2⟩
theorem Go.via {tb : Tables} {Q : Option Value → Heap → List Loc → Prop} {k n : Nat} {A B : State} (h : Steps tb e below A B) (g : Go tb e below s Q k n B) : Go tb e below s Q k n A := by
  obtain ⟨s₂, o, h1, h2⟩ := g
  exact ⟨s₂, o, h.trans h1, h2⟩
theorem Go.retN (X : Stand p l e R s m args below meth c T locs cells slots) (hx : p.tables.exec = Jvm.exec) (hlk : meth.locks = false) {Q : Option Value → Heap → List Loc → Prop} {k n : Nat} {pc : Nat} {Ls : Array Slot} {z : Int32} {t : FieldType} {rest : List Value} (hret : meth.sig.returnType = some t) (ht : t = .boolean ∨ t = .byte ∨ t = .char ∨ t = .short)
    (hd : decode c.code pc = .ok (.ireturn, 1)) (hk : cells ≤ k) (hn : slots ≤ n) {h : Heap} (eT : T.heap = h) (q : Q (some (.int (nar t z))) h locs) : Go p.tables e below s Q k n (T.setTop (mkF m pc Ls (.int z :: rest))) := by
  obtain ⟨fs, hr, hrun, hended, hW, hsame⟩ := X.leave (v := some (.int (nar t z))) (fun h => by rw [hret] at h; cases h) hlk
  subst eT
  exact ⟨_, _, Jvm.RoadKit.retN X hx hret ht hd hr, hrun, hended, _, _, rfl, q, ⟨_, rfl⟩, hW, hsame.mono hk hn⟩
theorem Go.retI (X : Stand p l e R s m args below meth c T locs cells slots) (hx : p.tables.exec = Jvm.exec) (hlk : meth.locks = false) {Q : Option Value → Heap → List Loc → Prop} {k n : Nat} {pc : Nat} {Ls : Array Slot} {z : Int32} {rest : List Value} (hret : meth.sig.returnType = some .int)
    (hd : decode c.code pc = .ok (.ireturn, 1)) (hk : cells ≤ k) (hn : slots ≤ n) {h : Heap} (eT : T.heap = h) (q : Q (some (.int z)) h locs) : Go p.tables e below s Q k n (T.setTop (mkF m pc Ls (.int z :: rest))) := by
  obtain ⟨fs, hr, hrun, hended, hW, hsame⟩ := X.leave (v := some (.int z)) (fun h => by rw [hret] at h; cases h) hlk
  subst eT
  exact ⟨_, _, Jvm.RoadKit.retI X hx hret hd hr, hrun, hended, _, _, rfl, q, ⟨_, rfl⟩, hW, hsame.mono hk hn⟩
theorem Go.retJ (X : Stand p l e R s m args below meth c T locs cells slots) (hx : p.tables.exec = Jvm.exec) (hlk : meth.locks = false) {Q : Option Value → Heap → List Loc → Prop} {k n : Nat} {pc : Nat} {Ls : Array Slot} {z : Int64} (hret : meth.sig.returnType = some .long)
    (hd : decode c.code pc = .ok (.lreturn, 1)) (hk : cells ≤ k) (hn : slots ≤ n) {h : Heap} (eT : T.heap = h) (q : Q (some (.long z)) h locs) : Go p.tables e below s Q k n (T.setTop (mkF m pc Ls [.long z])) := by
  obtain ⟨fs, hr, hrun, hended, hW, hsame⟩ := X.leave (v := some (.long z)) (fun h => by rw [hret] at h; cases h) hlk
  subst eT
  exact ⟨_, _, X.lreturnOut hx hret hd hr, hrun, hended, _, _, rfl, q, ⟨_, rfl⟩, hW, hsame.mono hk hn⟩
theorem Go.retA (X : Stand p l e R s m args below meth c T locs cells slots) (hx : p.tables.exec = Jvm.exec) (hlk : meth.locks = false) {Q : Option Value → Heap → List Loc → Prop} {k n : Nat} {pc : Nat} {Ls : Array Slot} {w : Value} {t : FieldType} (hw : w.isRef = true) (hret : meth.sig.returnType = some t) (ht : t.isReference = true)
    (hd : decode c.code pc = .ok (.areturn, 1)) (hk : cells ≤ k) (hn : slots ≤ n) {h : Heap} (eT : T.heap = h) (q : Q (some w) h locs) : Go p.tables e below s Q k n (T.setTop (mkF m pc Ls [w])) := by
  obtain ⟨fs, hr, hrun, hended, hW, hsame⟩ := X.leave (v := some w) (fun h => by rw [hret] at h; cases h) hlk
  subst eT
  exact ⟨_, _, X.areturnOut hx hw hret ht hd hr, hrun, hended, _, _, rfl, q, ⟨_, rfl⟩, hW, hsame.mono hk hn⟩
theorem Go.retV (X : Stand p l e R s m args below meth c T locs cells slots) (hx : p.tables.exec = Jvm.exec) (hlk : meth.locks = false) {Q : Option Value → Heap → List Loc → Prop} {k n : Nat} {pc : Nat} {Ls : Array Slot} (hret : meth.sig.returnType = none)
    (hd : decode c.code pc = .ok (.return_, 1)) (hk : cells ≤ k) (hn : slots ≤ n) {h : Heap} (eT : T.heap = h) (q : Q none h locs) : Go p.tables e below s Q k n (T.setTop (mkF m pc Ls [])) := by
  obtain ⟨fs, hr, hrun, hended, hW, hsame⟩ := X.leave (v := none) (fun _ => rfl) hlk
  subst eT
  exact ⟨_, _, X.returnOut hx hret hd hr, hrun, hended, _, _, rfl, q, ⟨_, rfl⟩, hW, hsame.mono hk hn⟩
end New
end Jvm.RoadKit
namespace Jvm.RoadKit
open Sem ClassFile Op Lib Jvm.Stand Jvm.Free Jvm.LawKit
section NewW
variable {p : Program} {l : Launch} {e : Env} {R : Room} {s : State} {m : MethodId} {args : Array Value} {below : List Frame} {meth : Method} {c : Code} {T : State} {locs : List Loc} {cells slots : Nat} {vm0 : Vm} {Z : State} {a0 : Array Value} {EL : List (String × Nat)} {h h' : Heap}
/-- as Go, for a body that may load String constants: the texts that are booked stay what they are -/
def GoW (tb : Tables) (e : Env) (below : List Frame) (s : State) (Q : Option Value → Heap → List Loc → Prop) (Z : State) (EL : List (String × Nat)) (k n : Nat) (A : State) : Prop :=
  ∃ s₂ o, Steps tb e below A s₂ ∧ s₂.status = .running ∧ Ended s₂ below o ∧ ∃ v L, o = .returned v ∧ Q v s₂.heap L ∧ CHr Z EL s.vm s.heap s₂.vm s₂.heap ∧ ReturnedEndW s o s₂ L k n
theorem GoW.on {tb : Tables} {Q : Option Value → Heap → List Loc → Prop} {k n : Nat} {A B : State} (h : ∀ t, Steps tb e below B t → Steps tb e below A t) (g : GoW tb e below s Q Z EL k n B) : GoW tb e below s Q Z EL k n A := by
  obtain ⟨s₂, o, h1, h2⟩ := g
  exact ⟨s₂, o, h _ h1, h2⟩
theorem GoW.via {tb : Tables} {Q : Option Value → Heap → List Loc → Prop} {k n : Nat} {A B : State} (h : Steps tb e below A B) (g : GoW tb e below s Q Z EL k n B) : GoW tb e below s Q Z EL k n A := by
  obtain ⟨s₂, o, h1, h2⟩ := g
  exact ⟨s₂, o, h.trans h1, h2⟩
theorem retW_mono {o : Outcome} {t : State} {L : List Loc} {k n k' n' : Nat} (q : ReturnedEndW s o t L k n) (hk : k ≤ k') (hn : n ≤ n') : ReturnedEndW s o t L k' n' := ⟨q.1, q.2.1, q.2.2.1, q.2.2.2.mono hk hn⟩
theorem GoW.retN (X : Stand p l e R (s.setVm vm0) m args below meth c T locs cells slots) (hx : p.tables.exec = Jvm.exec) (hlk : meth.locks = false) (hZ : Z.Warmed39 vm0) {k0 : Nat} (hS : s.Since vm0 k0) (hk0 : k0 ≤ h.size) (w : EW Z a0 EL) (C : CHr Z EL s.vm s.heap vm0 h) {Q : Option Value → Heap → List Loc → Prop} {k n : Nat} {pc : Nat} {Ls : Array Slot} {z : Int32} {t : FieldType} {rest : List Value} (hret : meth.sig.returnType = some t) (ht : t = .boolean ∨ t = .byte ∨ t = .char ∨ t = .short)
    (hd : decode c.code pc = .ok (.ireturn, 1)) (hk : cells ≤ k) (hn : slots ≤ n) (eT : T.heap = h) (q : Q (some (.int (nar t z))) h locs) : GoW p.tables e below s Q Z EL k n (T.setTop (mkF m pc Ls (.int z :: rest))) := by
  subst eT
  obtain ⟨fs, hr, hrun, hended, hR⟩ := X.leaveW hS hk0 (v := some (.int (nar t z))) (fun h => by rw [hret] at h; cases h) hlk
  have A := C.trans (CHv.at X hZ w C.1)
  exact ⟨_, _, Jvm.RoadKit.retN X hx hret ht hd hr, hrun, hended, _, _, rfl, q, A, retW_mono hR hk hn⟩
theorem GoW.retA (X : Stand p l e R (s.setVm vm0) m args below meth c T locs cells slots) (hx : p.tables.exec = Jvm.exec) (hlk : meth.locks = false) (hZ : Z.Warmed39 vm0) {k0 : Nat} (hS : s.Since vm0 k0) (hk0 : k0 ≤ h.size) (w : EW Z a0 EL) (C : CHr Z EL s.vm s.heap vm0 h) {Q : Option Value → Heap → List Loc → Prop} {k n : Nat} {pc : Nat} {Ls : Array Slot} {v : Value} {t : FieldType} (hv : v.isRef = true) (hret : meth.sig.returnType = some t) (ht : t.isReference = true)
    (hd : decode c.code pc = .ok (.areturn, 1)) (hk : cells ≤ k) (hn : slots ≤ n) (eT : T.heap = h) (q : Q (some v) h locs) : GoW p.tables e below s Q Z EL k n (T.setTop (mkF m pc Ls [v])) := by
  subst eT
  obtain ⟨fs, hr, hrun, hended, hR⟩ := X.leaveW hS hk0 (v := some v) (fun h => by rw [hret] at h; cases h) hlk
  have A := C.trans (CHv.at X hZ w C.1)
  exact ⟨_, _, X.areturnOut hx hv hret ht hd hr, hrun, hended, _, _, rfl, q, A, retW_mono hR hk hn⟩
theorem GoW.retV (X : Stand p l e R (s.setVm vm0) m args below meth c T locs cells slots) (hx : p.tables.exec = Jvm.exec) (hlk : meth.locks = false) (hZ : Z.Warmed39 vm0) {k0 : Nat} (hS : s.Since vm0 k0) (hk0 : k0 ≤ h.size) (w : EW Z a0 EL) (C : CHr Z EL s.vm s.heap vm0 h) {Q : Option Value → Heap → List Loc → Prop} {k n : Nat} {pc : Nat} {Ls : Array Slot} (hret : meth.sig.returnType = none)
    (hd : decode c.code pc = .ok (.return_, 1)) (hk : cells ≤ k) (hn : slots ≤ n) (eT : T.heap = h) (q : Q none h locs) : GoW p.tables e below s Q Z EL k n (T.setTop (mkF m pc Ls [])) := by
  subst eT
  obtain ⟨fs, hr, hrun, hended, hR⟩ := X.leaveW hS hk0 (v := none) (fun _ => rfl) hlk
  have A := C.trans (CHv.at X hZ w C.1)
  exact ⟨_, _, X.returnOut hx hret hd hr, hrun, hended, _, _, rfl, q, A, retW_mono hR hk hn⟩
/-- a String whose array isn't there yet is no booked one -/
theorem own_safe0 {x : Addr} {vm : Vm} (hal : Z.vm.Alike vm) (E : Exa Z h x "java/lang/String") (F : Fld Z h x "java/lang/String" "value" "[B" .null) : Safe Z EL vm h x := fun B => by
  obtain ⟨pr, hp, u, a, hb, q, hq, S, hy⟩ := B
  obtain ⟨cell, cf, k, i, f, h1, h2, -, -, -, -, h7⟩ := F
  have ha := S.ha
  have hd := S.hd
  obtain ⟨cS, ⟨⟨s1, s2, s3, ⟨cv, kv, iv, s4, s4'⟩, s5, s6, s7, s8, r⟩, r2⟩, -, hB, -⟩ := S
  rcases hy with rfl | rfl
  · cases h1.symm.trans ha
    obtain ⟨k3, e3, -⟩ := State.fieldFound?_setVm (s := Z) hal h2
    have e4 : (Wst Z vm h).fieldFound? "java/lang/String" "value" "[B" = some (cf, k3, i, f) := e3
    have e5 := e4.symm.trans s4
    simp only [Option.some.injEq, Prod.mk.injEq] at e5
    rw [← e5.2.2.2, h7] at s8
    cases s8
  · obtain ⟨c1, k1, g1, g2, -⟩ := E
    cases g1.symm.trans hd
    have hB' : vm.findClass "[B" = some q.SA.cls := hB
    rw [hal.findClass] at hB'
    obtain ⟨k2, a1, a2⟩ := Vm.findClass_spec g2
    obtain ⟨k4, b1, b2⟩ := Vm.findClass_spec hB'
    cases a1.symm.trans b1
    exact absurd (a2.symm.trans b2) (by decide)
/-- the String x spells the chars cs -/
def Txt (Z : State) (h : Heap) (x : Addr) (cs : List Int32) : Prop := (∀ c ∈ cs, ¬ c < 0 ∧ ¬ (255 : Int32) < c) ∧ cs.length ≤ 4000 ∧ Exa Z h x "java/lang/String" ∧ Fld Z h x "java/lang/String" "coder" "B" (.int 0) ∧
  ∃ (t : Addr) (kb : ClassId), Fld Z h x "java/lang/String" "value" "[B" (.ref t) ∧ Arv Z h t kb .byte (Int32.ofNat cs.length) ((cs.map (fun c => c.toInt8.toInt32)).map Value.int) (.int 0)
theorem Txt.ext {x : Addr} {cs : List Int32} (F : Txt Z h x cs) (E : Ext h h') : Txt Z h' x cs := by
  obtain ⟨h1, h2, h3, h4, t, kb, h5, h6⟩ := F; exact ⟨h1, h2, h3.ext E, h4.ext E, t, kb, h5.ext E, h6.ext E⟩
theorem Txt.keep0 {x : Addr} {cs : List Int32} (F : Txt Z h x cs) (K : Keep h h' []) : Txt Z h' x cs := by
  obtain ⟨h1, h2, h3, h4, t, kb, h5, h6⟩ := F; exact ⟨h1, h2, h3.keep K, h4.keep K nin0, t, kb, h5.keep K nin0, h6.keep K nin0⟩
theorem Txt.lt {x : Addr} {cs : List Int32} (F : Txt Z h x cs) : x < h.size := F.2.2.1.lt
end NewW
end Jvm.RoadKit
/- laws to paste: Road.backV, Road.eqW, Road.codOf (cut by pick.py; bodies as the Statement names them) -/
namespace Jvm.Pilot.@@N@@
namespace StrChars
open Jvm Sem ClassFile Op Lib Jvm.Stand Jvm.Free.XT Jvm.Free.ALB Jvm.Free.JM Jvm.Free
open Jvm.Lib.Cold (StaticIs)
/-- a char array whose places are chars -/
def Ch (a : Addr) (A : Cell) (U : State) : Prop := Arr .char a A U ∧ Typed .char A
theorem Ch.mv {a : Addr} {A : Cell} {U U' : State} (h : Ch a A U) (hal : U.vm.Alike U'.vm) (hh : U'.heap = U.heap) : Ch a A U' := ⟨h.1.mv hal hh, h.2⟩
theorem Ch.keep {a : Addr} {A : Cell} {U U' : State} (h : Ch a A U) (hal : U.vm.Alike U'.vm) (hk : U'.heap[a]? = some A) : Ch a A U' := ⟨h.1.keep hal hk, h.2⟩
/-- what place i of a char[]'s cell holds -/
def cv (A : Cell) (i : Nat) : Int32 := match A.slots[i]? with | some (.int x) => x | _ => 0
theorem Ch.get {a : Addr} {A : Cell} {U : State} (h : Ch a A U) {i : Nat} (hi : i < A.slots.size) : A.slots[i]? = some (.int (cv A i)) := by
  have e := Array.getElem?_eq_getElem hi
  have f := h.2 i _ e
  unfold cv; rw [e]
  generalize A.slots[i] = v at f
  cases v <;> simp [fits] at f ⊢
/-- the byte that i2b leaves of a char -/
def lo8 (x : Int32) : Int32 := x.toInt8.toInt32
theorem fits_lo8 (y : Int32) : fits .byte (.int (lo8 y)) = true := by
  have h1 := y.toInt8.le_toInt
  have h2 := y.toInt8.toInt_lt
  simp only [lo8, fits, Bool.and_eq_true, decide_eq_true_eq, Int32.le_iff_toInt_le, Int8.toInt_toInt32, show (-128 : Int32).toInt = -128 from by decide, show (127 : Int32).toInt = 127 from by decide]
  omega
/-- A' is A but that each place j of lo .. hi - 1 holds f j -/
def Laid (A A' : Cell) (lo hi : Nat) (f : Nat → Value) : Prop := A'.cls = A.cls ∧ A'.vm = A.vm ∧ A'.slots.size = A.slots.size ∧ ∀ i, A'.slots[i]? = if lo ≤ i ∧ i < hi then some (f i) else A.slots[i]?
theorem Laid.zero (A : Cell) (lo : Nat) (f : Nat → Value) : Laid A A lo (lo + 0) f := ⟨rfl, rfl, rfl, fun i => by rw [if_neg (by omega)]⟩
theorem Laid.step {A Ak : Cell} {lo k : Nat} {f : Nat → Value} {v : Value} (h : Laid A Ak lo k f) (hlo : lo ≤ k) (hk : k < Ak.slots.size) (hv : v = f k) : Laid A (Ak.setSlot k v) lo (k + 1) f := by
  refine ⟨h.1, h.2.1, by simpa [Cell.setSlot] using h.2.2.1, fun i => ?_⟩
  by_cases e : k = i
  · subst e; rw [Cell.slots_setSlot_self v hk, if_pos (by omega), hv]
  · rw [Cell.slots_setSlot_ne v e, h.2.2.2 i]
    by_cases q : lo ≤ i ∧ i < k
    · rw [if_pos q, if_pos (by omega)]
    · rw [if_neg q, if_neg (by omega)]
def U16 : String := "java/lang/StringUTF16"
namespace Cmp5
def yN : MethodName := ⟨"java/lang/StringUTF16", "compress", "([CI[BII)I"⟩
abbrev yB : ByteArray := jdk_52_method_21_code
theorem d0 : decode yB 0 = .ok (.iconst 0, 1) := by decide +kernel
theorem d1 : decode yB 1 = .ok (.istore 5, 2) := by decide +kernel
theorem d3 : decode yB 3 = .ok (.iload 5, 2) := by decide +kernel
theorem d5 : decode yB 5 = .ok (.iload 4, 2) := by decide +kernel
theorem d7 : decode yB 7 = .ok (.if_icmp (.ge) 37, 3) := by decide +kernel
theorem d10 : decode yB 10 = .ok (.aload_n 0, 1) := by decide +kernel
theorem d11 : decode yB 11 = .ok (.iload_n 1, 1) := by decide +kernel
theorem d12 : decode yB 12 = .ok (.caload, 1) := by decide +kernel
theorem d13 : decode yB 13 = .ok (.istore 6, 2) := by decide +kernel
theorem d15 : decode yB 15 = .ok (.iload 6, 2) := by decide +kernel
theorem d17 : decode yB 17 = .ok (.sipush 255, 3) := by decide +kernel
theorem d20 : decode yB 20 = .ok (.if_icmp (.le) 6, 3) := by decide +kernel
theorem d26 : decode yB 26 = .ok (.aload_n 2, 1) := by decide +kernel
theorem d27 : decode yB 27 = .ok (.iload_n 3, 1) := by decide +kernel
theorem d28 : decode yB 28 = .ok (.iload 6, 2) := by decide +kernel
theorem d30 : decode yB 30 = .ok (.i2b, 1) := by decide +kernel
theorem d31 : decode yB 31 = .ok (.bastore, 1) := by decide +kernel
theorem d32 : decode yB 32 = .ok (.iinc 1 1, 3) := by decide +kernel
theorem d35 : decode yB 35 = .ok (.iinc 3 1, 3) := by decide +kernel
theorem d38 : decode yB 38 = .ok (.iinc 5 1, 3) := by decide +kernel
theorem d41 : decode yB 41 = .ok (.goto (-38), 3) := by decide +kernel
theorem d44 : decode yB 44 = .ok (.iload 4, 2) := by decide +kernel
theorem d46 : decode yB 46 = .ok (.ireturn, 1) := by decide +kernel
def site : List Cond := []
def tab : Cond := tabOf yN yB 7 (some .int) site
def P (b : Addr) (A : Cell) (d : Addr) (B : Cell) (o q len : Nat) (args : Array Value) (s : State) : Prop := args = #[.ref b, .int (Int32.ofNat o), .ref d, .int (Int32.ofNat q), .int (Int32.ofNat len)] ∧ Ch b A s ∧ Arr .byte d B s ∧ b ≠ d ∧ o + len ≤ A.slots.size ∧ q + len ≤ B.slots.size ∧ ∀ i, i < len → ¬ 255 < cv A (o + i)
def E (b : Addr) (A : Cell) (d : Addr) (B : Cell) (o q len : Nat) (r : Option Value) (s u : State) : Prop := r = some (.int (Int32.ofNat len)) ∧ ∃ B', Put d B' s u ∧ Laid B B' q (q + len) (fun j => Value.int (lo8 (cv A (o + (j - q)))))
/-- no char of the range above 255: len; the places written hold each char's low byte -/
theorem law (l : Launch) (b : Addr) (A : Cell) (d : Addr) (B : Cell) (o q len : Nat) : Law l yN 5 5 0 0 yB 7 (some .int) site (P b A d B o q len) (E b A d B o q len) (copyLocs d q len) 0 0 := by
  refine Law.of_walk (plainFor_of_name (by decide +kernel)) (by decide +kernel) (by decide +kernel) (by decide) (fun _ _ h => by rw [h.1]; rfl) (fun _ U U' hal hh h => ⟨h.1, h.2.1.mv hal hh, h.2.2.1.mv hal hh, h.2.2.2⟩) (fun r U U' V V' h1 hal h2 h => ⟨h.1, h.2.elim fun B' q => ⟨B', q.1.mv h1 h2, q.2⟩⟩) ?_
  intro p e s m args below meth c s₁ X0 hexec hbytes hml hret hlk hnm hown hh0 W hP
  obtain ⟨rfl, hA, hB, hne, l1, l2, hp⟩ := hP
  have c1 : Steps p.tables e below (s₁.setTop (entryFrame m #[.ref b, .int (Int32.ofNat o), .ref d, .int (Int32.ofNat q), .int (Int32.ofNat len)] 7)) (s₁.setTop (mkF m 0 #[.val (.ref b), .val (.int (Int32.ofNat o)), .val (.ref d), .val (.int (Int32.ofNat q)), .val (.int (Int32.ofNat len)), .unset, .unset] [])) := entry rfl
  have hA0 := hA.1.mv X0.warmed.alike hh0
  have hB0 := hB.mv X0.warmed.alike hh0
  have a31 := hA.1.2.2.2
  have c2 : Steps p.tables e below (s₁.setTop (entryFrame m #[.ref b, .int (Int32.ofNat o), .ref d, .int (Int32.ofNat q), .int (Int32.ofNat len)] 7)) (s₁.setTop (mkF m 3 #[.val (.ref b), .val (.int (Int32.ofNat o)), .val (.ref d), .val (.int (Int32.ofNat q)), .val (.int (Int32.ofNat len)), .val (.int 0), .unset] [])) := c1.trans (by
    refine iconstV X0.here hexec rfl 0 (hb hbytes d0) (by decide) ?_
    refine XS.istore X0.here hexec rfl (hb hbytes d1) rfl rfl ?_
    exact Steps.refl _)
  have loop : ∀ (r i : Nat), i + r = len → ∀ (z : Slot), (z = .unset ∨ ∃ w, z = .val w ∧ w.category = 1) → ∀ (Tl : State) (Bk : Cell), Stand p l e { frames := 0, locals := 0, cells := 0, slots := 0 } s m #[.ref b, .int (Int32.ofNat o), .ref d, .int (Int32.ofNat q), .int (Int32.ofNat len)] below meth c Tl ([] ++ copyLocs d q i) 0 0 → Put d Bk s₁ Tl → Laid B Bk q (q + i) (fun j => Value.int (lo8 (cv A (o + (j - q))))) →
      Steps p.tables e below (s₁.setTop (entryFrame m #[.ref b, .int (Int32.ofNat o), .ref d, .int (Int32.ofNat q), .int (Int32.ofNat len)] 7)) (Tl.setTop (mkF m 3 #[.val (.ref b), .val (.int (Int32.ofNat (o + i))), .val (.ref d), .val (.int (Int32.ofNat (q + i))), .val (.int (Int32.ofNat len)), .val (.int (Int32.ofNat i)), z] [])) → ∃ (T' : State) (B' : Cell) (z' : Slot), Stand p l e { frames := 0, locals := 0, cells := 0, slots := 0 } s m #[.ref b, .int (Int32.ofNat o), .ref d, .int (Int32.ofNat q), .int (Int32.ofNat len)] below meth c T' ([] ++ copyLocs d q len) 0 0 ∧ Put d B' s₁ T' ∧ Laid B B' q (q + len) (fun j => Value.int (lo8 (cv A (o + (j - q))))) ∧
      Steps p.tables e below (s₁.setTop (entryFrame m #[.ref b, .int (Int32.ofNat o), .ref d, .int (Int32.ofNat q), .int (Int32.ofNat len)] 7)) (T'.setTop (mkF m 3 #[.val (.ref b), .val (.int (Int32.ofNat (o + len))), .val (.ref d), .val (.int (Int32.ofNat (q + len))), .val (.int (Int32.ofNat len)), .val (.int (Int32.ofNat len)), z'] [])) := by
    intro r
    induction r with
    | zero =>
      intro i hi z hz Tl Bk Xl pl fl cl
      have hil : i = len := by omega
      rw [hil] at Xl fl cl
      exact ⟨Tl, Bk, z, Xl, pl, fl, cl⟩
    | succ r ih =>
      intro i hi z hz Tl Bk Xl pl fl cl
      have all := X0.warmed.alike.symm.trans Xl.warmed.alike
      have hAl := hA0.keep all (pl.other hne hA0.1)
      have hBk := hB0.like all pl.1 fl.1 fl.2.1 fl.2.2.1
      have hlt : q + i < Bk.slots.size := by rw [fl.2.2.1]; omega
      have c3 : Steps p.tables e below (s₁.setTop (entryFrame m #[.ref b, .int (Int32.ofNat o), .ref d, .int (Int32.ofNat q), .int (Int32.ofNat len)] 7)) (Tl.setTop (mkF m 12 #[.val (.ref b), .val (.int (Int32.ofNat (o + i))), .val (.ref d), .val (.int (Int32.ofNat (q + i))), .val (.int (Int32.ofNat len)), .val (.int (Int32.ofNat i)), z] [.int (Int32.ofNat (o + i)), .ref b])) := cl.trans (by
        refine XS.iload Xl.here hexec rfl (hb hbytes d3) rfl ?_
        refine XS.iload Xl.here hexec rfl (hb hbytes d5) rfl ?_
        refine XS.icmpNo Xl.here hexec rfl (hb hbytes d7) rfl (ii_ge_f (lt32 (by omega) (by omega))) ?_
        refine XS.aloadN Xl.here hexec rfl (hb hbytes d10) rfl rfl ?_
        refine XS.iloadN Xl.here hexec rfl (hb hbytes d11) rfl ?_
        exact Steps.refl _)
      have c4 : Steps p.tables e below (s₁.setTop (entryFrame m #[.ref b, .int (Int32.ofNat o), .ref d, .int (Int32.ofNat q), .int (Int32.ofNat len)] 7)) (Tl.setTop (mkF m 13 #[.val (.ref b), .val (.int (Int32.ofNat (o + i))), .val (.ref d), .val (.int (Int32.ofNat (q + i))), .val (.int (Int32.ofNat len)), .val (.int (Int32.ofNat i)), z] [.int (cv A (o + i))])) := c3.trans (by
        refine Xl.aget hexec hAl rfl (hA.get (i := o + i) (by omega)) rfl rfl (hb hbytes d12) ?_
        exact Steps.refl _)
      have c5 : Steps p.tables e below (s₁.setTop (entryFrame m #[.ref b, .int (Int32.ofNat o), .ref d, .int (Int32.ofNat q), .int (Int32.ofNat len)] 7)) (Tl.setTop (mkF m 15 #[.val (.ref b), .val (.int (Int32.ofNat (o + i))), .val (.ref d), .val (.int (Int32.ofNat (q + i))), .val (.int (Int32.ofNat len)), .val (.int (Int32.ofNat i)), .val (.int (cv A (o + i)))] [])) := c4.trans (by
        refine XS.istoreS Xl.here hexec rfl (hb hbytes d13) rfl rfl hz ?_
        exact Steps.refl _)
      have c6 : Steps p.tables e below (s₁.setTop (entryFrame m #[.ref b, .int (Int32.ofNat o), .ref d, .int (Int32.ofNat q), .int (Int32.ofNat len)] 7)) (Tl.setTop (mkF m 31 #[.val (.ref b), .val (.int (Int32.ofNat (o + i))), .val (.ref d), .val (.int (Int32.ofNat (q + i))), .val (.int (Int32.ofNat len)), .val (.int (Int32.ofNat i)), .val (.int (cv A (o + i)))] [.int (lo8 (cv A (o + i))), .int (Int32.ofNat (q + i)), .ref d])) := c5.trans (by
        refine XS.iload Xl.here hexec rfl (hb hbytes d15) rfl ?_
        refine sipushV Xl.here hexec rfl 255 (hb hbytes d17) (by decide) ?_
        refine XS.icmpYes Xl.here hexec rfl (pc0 := 20) rfl (hb hbytes d20) rfl (ii_le_t (hp i (by omega))) (by decide) rfl ?_
        refine XS.aloadN Xl.here hexec rfl (hb hbytes d26) rfl rfl ?_
        refine XS.iloadN Xl.here hexec rfl (hb hbytes d27) rfl ?_
        refine XS.iload Xl.here hexec rfl (hb hbytes d28) rfl ?_
        refine i2b Xl.here hexec rfl (hb hbytes d30) rfl ?_
        exact Steps.refl _)
      obtain ⟨T7, X7, p7, st7⟩ := Xl.aput hexec hBk rfl hlt rfl (fits_lo8 (cv A (o + i))) (g := (mkF m 31 #[.val (.ref b), .val (.int (Int32.ofNat (o + i))), .val (.ref d), .val (.int (Int32.ofNat (q + i))), .val (.int (Int32.ofNat len)), .val (.int (Int32.ofNat i)), .val (.int (cv A (o + i)))] [.int (lo8 (cv A (o + i))), .int (Int32.ofNat (q + i)), .ref d])) rfl (rest := []) rfl (hb hbytes d31)
      have c8 : Steps p.tables e below (s₁.setTop (entryFrame m #[.ref b, .int (Int32.ofNat o), .ref d, .int (Int32.ofNat q), .int (Int32.ofNat len)] 7)) (T7.setTop (mkF m 32 #[.val (.ref b), .val (.int (Int32.ofNat (o + i))), .val (.ref d), .val (.int (Int32.ofNat (q + i))), .val (.int (Int32.ofNat len)), .val (.int (Int32.ofNat i)), .val (.int (cv A (o + i)))] [])) := c6.trans (st7 _ (Steps.refl _))
      have c9 : Steps p.tables e below (s₁.setTop (entryFrame m #[.ref b, .int (Int32.ofNat o), .ref d, .int (Int32.ofNat q), .int (Int32.ofNat len)] 7)) (T7.setTop (mkF m 3 #[.val (.ref b), .val (.int (Int32.ofNat (o + i) + 1)), .val (.ref d), .val (.int (Int32.ofNat (q + i) + 1)), .val (.int (Int32.ofNat len)), .val (.int (Int32.ofNat i + 1)), .val (.int (cv A (o + i)))] [])) := c8.trans (by
        refine iincV X7.here hexec rfl 1 (hb hbytes d32) (by decide) rfl rfl ?_
        refine iincV X7.here hexec rfl 1 (hb hbytes d35) (by decide) rfl rfl ?_
        refine iincV X7.here hexec rfl 1 (hb hbytes d38) (by decide) rfl rfl ?_
        refine XS.goto X7.here hexec rfl (pc0 := 41) rfl (hb hbytes d41) (by decide) rfl ?_
        exact Steps.refl _)
      have c10 : Steps p.tables e below (s₁.setTop (entryFrame m #[.ref b, .int (Int32.ofNat o), .ref d, .int (Int32.ofNat q), .int (Int32.ofNat len)] 7)) (T7.setTop (mkF m 3 #[.val (.ref b), .val (.int (Int32.ofNat (o + (i + 1)))), .val (.ref d), .val (.int (Int32.ofNat (q + (i + 1)))), .val (.int (Int32.ofNat len)), .val (.int (Int32.ofNat (i + 1))), .val (.int (cv A (o + i)))] [])) := by
        have := c9
        rw [succ32, succ32, succ32] at this
        exact this
      exact ih (i + 1) (by omega) _ (Or.inr ⟨_, rfl, rfl⟩) T7 _ (by rw [copyLocs_step, ← List.append_assoc]; exact X7) (pl.trans p7) (fl.step (by omega) hlt (by simp)) c10
  obtain ⟨T9, B9, z9, X9, p9, f9, g9⟩ := loop len 0 (by omega) .unset (Or.inl rfl) s₁ B (by simpa [copyLocs] using X0) ⟨hB0.1, fun _ _ => rfl, rfl⟩ (Laid.zero _ _ _) c2
  have c11 : Steps p.tables e below (s₁.setTop (entryFrame m #[.ref b, .int (Int32.ofNat o), .ref d, .int (Int32.ofNat q), .int (Int32.ofNat len)] 7)) (T9.setTop (mkF m 46 #[.val (.ref b), .val (.int (Int32.ofNat (o + len))), .val (.ref d), .val (.int (Int32.ofNat (q + len))), .val (.int (Int32.ofNat len)), .val (.int (Int32.ofNat len)), z9] [.int (Int32.ofNat len)])) := g9.trans (by
    refine XS.iload X9.here hexec rfl (hb hbytes d3) rfl ?_
    refine XS.iload X9.here hexec rfl (hb hbytes d5) rfl ?_
    refine XS.icmpYes X9.here hexec rfl (pc0 := 7) rfl (hb hbytes d7) rfl (ii_ge_t (nlt32 (by omega) (Nat.le_refl _))) (by decide) rfl ?_
    refine XS.iload X9.here hexec rfl (hb hbytes d44) rfl ?_
    exact Steps.refl _)
  exact ⟨T9, some (.int (Int32.ofNat len)), _, _, _, X9, by simp, rfl, rfl, (fun h => by cases h), ⟨rfl, B9, p9.from hh0, f9⟩, fun fs hl => c11.trans (X9.ireturnOut hexec hret rfl (Or.inl rfl) (hb hbytes d46) hl)⟩
end Cmp5
namespace Cmp3
def yN : MethodName := ⟨"java/lang/StringUTF16", "compress", "([CII)[B"⟩
abbrev yB : ByteArray := jdk_52_method_16_code
theorem d0 : decode yB 0 = .ok (.iload_n 2, 1) := by decide +kernel
theorem d1 : decode yB 1 = .ok (.newarray .byte, 2) := by decide +kernel
theorem d3 : decode yB 3 = .ok (.astore_n 3, 1) := by decide +kernel
theorem d4 : decode yB 4 = .ok (.aload_n 0, 1) := by decide +kernel
theorem d5 : decode yB 5 = .ok (.iload_n 1, 1) := by decide +kernel
theorem d6 : decode yB 6 = .ok (.aload_n 3, 1) := by decide +kernel
theorem d7 : decode yB 7 = .ok (.iconst 0, 1) := by decide +kernel
theorem d8 : decode yB 8 = .ok (.iload_n 2, 1) := by decide +kernel
theorem d9 : decode yB 9 = .ok (.invokestatic 115, 3) := by decide +kernel
theorem d12 : decode yB 12 = .ok (.istore 4, 2) := by decide +kernel
theorem d14 : decode yB 14 = .ok (.iload 4, 2) := by decide +kernel
theorem d16 : decode yB 16 = .ok (.iload_n 2, 1) := by decide +kernel
theorem d17 : decode yB 17 = .ok (.if_icmp (.eq) 40, 3) := by decide +kernel
theorem d57 : decode yB 57 = .ok (.aload_n 3, 1) := by decide +kernel
theorem d58 : decode yB 58 = .ok (.areturn, 1) := by decide +kernel
def site : List Cond := [.arrayClass .byte, Cmp5.tab] ++ staticW U16 115 Cmp5.yN
def tab : Cond := tabOf yN yB 6 (some (.array .byte)) site
def P (b : Addr) (A : Cell) (o len : Nat) (args : Array Value) (s : State) : Prop := args = #[.ref b, .int (Int32.ofNat o), .int (Int32.ofNat len)] ∧ Ch b A s ∧ o + len ≤ A.slots.size ∧ len ≤ 536870912 ∧ ∀ i, i < len → ¬ 255 < cv A (o + i)
def E (b : Addr) (A : Cell) (o len : Nat) (r : Option Value) (s u : State) : Prop := NewArr .byte "[B" len (fun j => .int (lo8 (cv A (o + j)))) r s u ∧ u.heap.size = s.heap.size + 1
/-- no char of the range above 255: a new byte[] of their low bytes -/
theorem law (l : Launch) (b : Addr) (A : Cell) (o len : Nat) : Law l yN 3 3 1 18 yB 6 (some (.array .byte)) site (P b A o len) (E b A o len) [] 1 len := by
  refine Law.of_walk (plainFor_of_name (by decide +kernel)) (by decide +kernel) (by decide +kernel) (by decide) (fun _ _ h => by rw [h.1]; rfl) (fun _ U U' hal hh h => ⟨h.1, h.2.1.mv hal hh, h.2.2⟩) (fun r U U' V V' h1 hal h2 h => ⟨NewArr.mv r U U' V V' h1 hal h2 h.1, by rw [h1, h2]; exact h.2⟩) ?_
  intro p e s m args below meth c s₁ X0 hexec hbytes hml hret hlk hnm hown hh0 W hP
  obtain ⟨rfl, hA, l1, l2, hp⟩ := hP
  have a31 := hA.1.2.2.2
  have c1 : Steps p.tables e below (s₁.setTop (entryFrame m #[.ref b, .int (Int32.ofNat o), .int (Int32.ofNat len)] 6)) (s₁.setTop (mkF m 0 #[.val (.ref b), .val (.int (Int32.ofNat o)), .val (.int (Int32.ofNat len)), .unset, .unset, .unset] [])) := entry rfl
  have c2 : Steps p.tables e below (s₁.setTop (entryFrame m #[.ref b, .int (Int32.ofNat o), .int (Int32.ofNat len)] 6)) (s₁.setTop (mkF m 1 #[.val (.ref b), .val (.int (Int32.ofNat o)), .val (.int (Int32.ofNat len)), .unset, .unset, .unset] [.int (Int32.ofNat len)])) := c1.trans (by
    refine XS.iloadN X0.here hexec rfl (hb hbytes d0) rfl ?_
    exact Steps.refl _)
  obtain ⟨T3, B3, X3, ba3, bs3, bv3, bh3, bf3, st3⟩ := X0.anew hexec (atype := .byte) (wk W (.arrayClass .byte)) rfl (by show len * 1 ≤ _; omega) (by omega) (g := (mkF m 1 #[.val (.ref b), .val (.int (Int32.ofNat o)), .val (.int (Int32.ofNat len)), .unset, .unset, .unset] [.int (Int32.ofNat len)])) rfl (hb hbytes d1) (rest := []) rfl (Nat.le_refl _) (by show 0 + len ≤ len; omega)
  rw [hh0] at ba3 st3
  have kp3 : XT.Kept s T3 := (XT.Kept.of_eq hh0).push bh3
  have hA3 := hA.keep X3.warmed.alike (kp3 _ _ hA.1.1)
  have hne : b ≠ s.heap.size := hA.1.ne
  have c4 : Steps p.tables e below (s₁.setTop (entryFrame m #[.ref b, .int (Int32.ofNat o), .int (Int32.ofNat len)] 6)) (T3.setTop (mkF m 3 #[.val (.ref b), .val (.int (Int32.ofNat o)), .val (.int (Int32.ofNat len)), .unset, .unset, .unset] [.ref s.heap.size])) := c2.trans (st3 _ (Steps.refl _))
  have c5 : Steps p.tables e below (s₁.setTop (entryFrame m #[.ref b, .int (Int32.ofNat o), .int (Int32.ofNat len)] 6)) (T3.setTop (mkF m 9 #[.val (.ref b), .val (.int (Int32.ofNat o)), .val (.int (Int32.ofNat len)), .val (.ref s.heap.size), .unset, .unset] [.int (Int32.ofNat len), .int 0, .ref s.heap.size, .int (Int32.ofNat o), .ref b])) := c4.trans (by
    refine XS.astoreN X3.here hexec rfl (hb hbytes d3) rfl rfl rfl ?_
    refine XS.aloadN X3.here hexec rfl (hb hbytes d4) rfl rfl ?_
    refine XS.iloadN X3.here hexec rfl (hb hbytes d5) rfl ?_
    refine XS.aloadN X3.here hexec rfl (hb hbytes d6) rfl rfl ?_
    refine iconstV X3.here hexec rfl 0 (hb hbytes d7) (by decide) ?_
    refine XS.iloadN X3.here hexec rfl (hb hbytes d8) rfl ?_
    exact Steps.refl _)
  obtain ⟨v6, T6, X6, E6, g6⟩ := X3.callS hexec (Cmp5.law l b A s.heap.size B3 o 0 len) hown (wks W (staticW U16 115 Cmp5.yN)) (wk W Cmp5.tab) (W := 0) (Nat.le_of_ble_eq_true rfl) (Nat.le_of_ble_eq_true rfl) (Nat.le_refl _) (by show 0 + len + 0 ≤ len; omega) (g := (mkF m 9 #[.val (.ref b), .val (.int (Int32.ofNat o)), .val (.int (Int32.ofNat len)), .val (.ref s.heap.size), .unset, .unset] [.int (Int32.ofNat len), .int (Int32.ofNat 0), .ref s.heap.size, .int (Int32.ofNat o), .ref b])) rfl (by rw [hml]; rfl) c5 (argsL := [.ref b, .int (Int32.ofNat o), .ref s.heap.size, .int (Int32.ofNat 0), .int (Int32.ofNat len)]) (rest := []) rfl rfl (by show 2 * 0 + 0 ≤ _; decide) (hb hbytes d9) (⟨rfl, hA3, ba3, hne, l1, by rw [bs3]; simp, hp⟩)
  obtain ⟨rfl, B6, p6, f6⟩ := E6
  have c7 : Steps p.tables e below (s₁.setTop (entryFrame m #[.ref b, .int (Int32.ofNat o), .int (Int32.ofNat len)] 6)) (T6.setTop (mkF m 12 #[.val (.ref b), .val (.int (Int32.ofNat o)), .val (.int (Int32.ofNat len)), .val (.ref s.heap.size), .unset, .unset] [.int (Int32.ofNat len)])) := g6
  have c8 : Steps p.tables e below (s₁.setTop (entryFrame m #[.ref b, .int (Int32.ofNat o), .int (Int32.ofNat len)] 6)) (T6.setTop (mkF m 58 #[.val (.ref b), .val (.int (Int32.ofNat o)), .val (.int (Int32.ofNat len)), .val (.ref s.heap.size), .val (.int (Int32.ofNat len)), .unset] [.ref s.heap.size])) := c7.trans (by
    refine XS.istore X6.here hexec rfl (hb hbytes d12) rfl rfl ?_
    refine XS.iload X6.here hexec rfl (hb hbytes d14) rfl ?_
    refine XS.iloadN X6.here hexec rfl (hb hbytes d16) rfl ?_
    refine XS.icmpYes X6.here hexec rfl (pc0 := 17) rfl (hb hbytes d17) rfl (ii_eq_t rfl) (by decide) rfl ?_
    refine XS.aloadN X6.here hexec rfl (hb hbytes d57) rfl rfl ?_
    exact Steps.refl _)
  have X8 := X6.wide (L' := []) (cells' := 1) (slots' := len) (fun x hx hlt => by
    simp only [List.nil_append, copyLocs, List.mem_map, List.mem_range] at hx
    obtain ⟨i, -, rfl⟩ := hx
    exact absurd hlt (Nat.lt_irrefl _)) (Nat.le_refl _) (by omega)
  exact ⟨T6, some (.ref s.heap.size), _, _, _, X8, rfl, rfl, rfl, (fun h => by cases h), ⟨⟨rfl, B6, ba3.like (X3.warmed.alike.symm.trans X6.warmed.alike) p6.1 f6.1 f6.2.1 f6.2.2.1, f6.2.1.trans bv3, by rw [X6.warmed.alike.findClass, f6.1]; exact bf3, by rw [f6.2.2.1, bs3]; simp, fun j hj => by rw [f6.2.2.2 j, if_pos (by omega)]; rfl, kp3.put p6 (Nat.le_refl _)⟩, by rw [p6.2.2, bh3, hh0]; simp⟩, fun fs hl => c8.trans (X8.areturnOut hexec rfl hret rfl (hb hbytes d58) hl)⟩
end Cmp3
namespace CodL
def yN : MethodName := ⟨"java/lang/StringUTF16", "coderFromArrayLen", "([BI)B"⟩
abbrev yB : ByteArray := jdk_52_method_15_code
theorem d0 : decode yB 0 = .ok (.iload_n 1, 1) := by decide +kernel
theorem d1 : decode yB 1 = .ok (.aload_n 0, 1) := by decide +kernel
theorem d2 : decode yB 2 = .ok (.arraylength, 1) := by decide +kernel
theorem d3 : decode yB 3 = .ok (.isub, 1) := by decide +kernel
theorem d4 : decode yB 4 = .ok (.bipush 31, 2) := by decide +kernel
theorem d6 : decode yB 6 = .ok (.iushr, 1) := by decide +kernel
theorem d7 : decode yB 7 = .ok (.i2b, 1) := by decide +kernel
theorem d8 : decode yB 8 = .ok (.ireturn, 1) := by decide +kernel
def site : List Cond := []
def tab : Cond := tabOf yN yB 2 (some .byte) site
def P (d : Addr) (B : Cell) (args : Array Value) (s : State) : Prop := args = #[.ref d, .int (Int32.ofNat B.slots.size)] ∧ Arr .byte d B s
def E (r : Option Value) (s u : State) : Prop := XT.PureE (some (.int 0)) r s u
/-- an array as long as the number of chars: LATIN1 -/
theorem law (l : Launch) (d : Addr) (B : Cell) : Law l yN 2 2 0 0 yB 2 (some .byte) site (P d B) E [] 0 0 := by
  refine Law.of_walk (plainFor_of_name (by decide +kernel)) (by decide +kernel) (by decide +kernel) (by decide) (fun _ _ h => by rw [h.1]; rfl) (fun _ U U' hal hh h => ⟨h.1, h.2.mv hal hh⟩) (fun r U U' V V' h1 hal h2 h => XT.PureE.mv r U U' V V' h1 hal h2 h) ?_
  intro p e s m args below meth c s₁ X0 hexec hbytes hml hret hlk hnm hown hh0 W hP
  obtain ⟨rfl, hB⟩ := hP
  have hB0 := hB.mv X0.warmed.alike hh0
  have c1 : Steps p.tables e below (s₁.setTop (entryFrame m #[.ref d, .int (Int32.ofNat B.slots.size)] 2)) (s₁.setTop (mkF m 0 #[.val (.ref d), .val (.int (Int32.ofNat B.slots.size))] [])) := entry rfl
  have c2 : Steps p.tables e below (s₁.setTop (entryFrame m #[.ref d, .int (Int32.ofNat B.slots.size)] 2)) (s₁.setTop (mkF m 2 #[.val (.ref d), .val (.int (Int32.ofNat B.slots.size))] [.ref d, .int (Int32.ofNat B.slots.size)])) := c1.trans (by
    refine XS.iloadN X0.here hexec rfl (hb hbytes d0) rfl ?_
    refine XS.aloadN X0.here hexec rfl (hb hbytes d1) rfl rfl ?_
    exact Steps.refl _)
  have c3 : Steps p.tables e below (s₁.setTop (entryFrame m #[.ref d, .int (Int32.ofNat B.slots.size)] 2)) (s₁.setTop (mkF m 8 #[.val (.ref d), .val (.int (Int32.ofNat B.slots.size))] [.int (lo8 (ushr (Int32.ofNat B.slots.size - Int32.ofNat B.slots.size) 31))])) := c2.trans (by
    refine X0.alen hexec hB0 rfl rfl (hb hbytes d2) ?_
    refine XS.isub X0.here hexec rfl (hb hbytes d3) rfl ?_
    refine bipushV X0.here hexec rfl 31 (hb hbytes d4) (by decide) ?_
    refine iushr X0.here hexec rfl (hb hbytes d6) rfl ?_
    refine i2b X0.here hexec rfl (hb hbytes d7) rfl ?_
    exact Steps.refl _)
  have e0 : lo8 (ushr (Int32.ofNat B.slots.size - Int32.ofNat B.slots.size) 31) = 0 := by rw [Int32.sub_self]; decide
  rw [e0] at c3
  exact ⟨s₁, some (.int 0), _, _, _, X0, rfl, rfl, rfl, (fun h => by cases h), ⟨rfl, hh0⟩, fun fs hl => c3.trans (X0.ireturnOut hexec hret rfl (Or.inr (Or.inr (Or.inl rfl))) (hb hbytes d8) hl)⟩
end CodL
/-- the String at a is Latin-1 over a new byte[] (the heap's one new cell): the low bytes of the len chars of A from o on; every cell but a is kept -/
def Got (a : Addr) (D : Cell) (fV fC : Field) (A : Cell) (o len : Nat) (r : Option Value) (s u : State) : Prop := r = none ∧ ∃ D' V : Cell, Blank "java/lang/String" a D' u ∧ Same D D' [fV.slot, fC.slot] ∧ D'.slots[fV.slot]? = some (.ref s.heap.size) ∧ D'.slots[fC.slot]? = some (.int 0) ∧ Arr .byte s.heap.size V u ∧ V.vm = .none ∧ u.vm.findClass "[B" = some V.cls ∧ V.slots.size = len ∧ (∀ j, j < len → V.slots[j]? = some (.int (lo8 (cv A (o + j))))) ∧ (∀ (y : Addr) (c : Cell), y ≠ a → s.heap[y]? = some c → u.heap[y]? = some c) ∧ u.heap.size = s.heap.size + 1
theorem Got.mv {a : Addr} {D A : Cell} {fV fC : Field} {o len : Nat} : ∀ r (U U' V V' : State), U'.heap = U.heap → V.vm.Alike V'.vm → V'.heap = V.heap → Got a D fV fC A o len r U V → Got a D fV fC A o len r U' V' :=
  fun r U U' V V' h1 hal h2 ⟨e0, D', X, a1, a2, a3, a4, a5, a6, a7, a8, a9, a10, a11⟩ => ⟨e0, D', X, a1.mv hal h2, a2, by rw [h1]; exact a3, a4, by rw [h1]; exact a5.mv hal h2, a6, by rw [hal.findClass]; exact a7, a8, a9, by rw [h1, h2]; exact a10, by rw [h1, h2]; exact a11⟩
namespace New4
def yN : MethodName := ⟨"java/lang/String", "<init>", "([CIILjava/lang/Void;)V"⟩
abbrev yB : ByteArray := jdk_42_method_149_code
theorem d0 : decode yB 0 = .ok (.aload_n 0, 1) := by decide +kernel
theorem d1 : decode yB 1 = .ok (.invokespecial 1, 3) := by decide +kernel
theorem d4 : decode yB 4 = .ok (.iload_n 3, 1) := by decide +kernel
theorem d5 : decode yB 5 = .ok (.ifCond (.ne) 22, 3) := by decide +kernel
theorem d27 : decode yB 27 = .ok (.getstatic 38, 3) := by decide +kernel
theorem d30 : decode yB 30 = .ok (.ifCond (.eq) 28, 3) := by decide +kernel
theorem d33 : decode yB 33 = .ok (.aload_n 1, 1) := by decide +kernel
theorem d34 : decode yB 34 = .ok (.iload_n 2, 1) := by decide +kernel
theorem d35 : decode yB 35 = .ok (.iload_n 3, 1) := by decide +kernel
theorem d36 : decode yB 36 = .ok (.invokestatic 177, 3) := by decide +kernel
theorem d39 : decode yB 39 = .ok (.astore 5, 2) := by decide +kernel
theorem d41 : decode yB 41 = .ok (.aload_n 0, 1) := by decide +kernel
theorem d42 : decode yB 42 = .ok (.aload 5, 2) := by decide +kernel
theorem d44 : decode yB 44 = .ok (.iload_n 3, 1) := by decide +kernel
theorem d45 : decode yB 45 = .ok (.invokestatic 47, 3) := by decide +kernel
theorem d48 : decode yB 48 = .ok (.putfield 15, 3) := by decide +kernel
theorem d51 : decode yB 51 = .ok (.aload_n 0, 1) := by decide +kernel
theorem d52 : decode yB 52 = .ok (.aload 5, 2) := by decide +kernel
theorem d54 : decode yB 54 = .ok (.putfield 9, 3) := by decide +kernel
theorem d57 : decode yB 57 = .ok (.return_, 1) := by decide +kernel
def site : List Cond := [.fieldLink "java/lang/String" 38 "java/lang/String" "COMPACT_STRINGS" "Z", Cmp3.tab, CodL.tab, .laysFinal "java/lang/String" "java/lang/String" "value" "[B", .fieldLink "java/lang/String" 9 "java/lang/String" "value" "[B", .laysFinal "java/lang/String" "java/lang/String" "coder" "B", .fieldLink "java/lang/String" 15 "java/lang/String" "coder" "B"] ++ objW "java/lang/String" 1 ++ staticW "java/lang/String" 177 Cmp3.yN ++ staticW "java/lang/String" 47 CodL.yN
def tab : Cond := tabOf yN yB 6 none site
def P (a : Addr) (D : Cell) (fV fC : Field) (b : Addr) (A : Cell) (z : Int32) (o len : Nat) (args : Array Value) (s : State) : Prop := args = #[.ref a, .ref b, .int (Int32.ofNat o), .int (Int32.ofNat len), .null] ∧ Blank "java/lang/String" a D s ∧ Found "java/lang/String" "value" "[B" fV s ∧ Found "java/lang/String" "coder" "B" fC s ∧ Ch b A s ∧ StaticIs s "java/lang/String" "COMPACT_STRINGS" "Z" (.int z) ∧ ¬ z = 0 ∧ 0 < len ∧ o + len ≤ A.slots.size ∧ len ≤ 536870912 ∧ ∀ i, i < len → ¬ 255 < cv A (o + i)
def E (a : Addr) (D : Cell) (fV fC : Field) (A : Cell) (o len : Nat) (r : Option Value) (s u : State) : Prop := Got a D fV fC A o len r s u
/-- len > 0, no char of the range above 255: a Latin-1 String of their low bytes -/
theorem law (l : Launch) (a : Addr) (D : Cell) (fV fC : Field) (b : Addr) (A : Cell) (z : Int32) (o len : Nat) : Law l yN 5 4 2 35 yB 6 none site (P a D fV fC b A z o len) (E a D fV fC A o len) [⟨a, fC.slot⟩, ⟨a, fV.slot⟩] 1 len := by
  refine Law.of_walk (plainFor_of_name (by decide +kernel)) (by decide +kernel) (by decide +kernel) (by decide) (fun _ _ h => by rw [h.1]; rfl) (fun _ U U' hal hh h => ⟨h.1, h.2.1.mv hal hh, h.2.2.1.al hal, h.2.2.2.1.al hal, h.2.2.2.2.1.mv hal hh, h.2.2.2.2.2.1.there hal hh, h.2.2.2.2.2.2⟩) (fun r U U' V V' h1 hal h2 h => Got.mv r U U' V V' h1 hal h2 h) ?_
  intro p e s m args below meth c s₁ X0 hexec hbytes hml hret hlk hnm hown hh0 W hP
  obtain ⟨rfl, hB, f1, f2, hA, s1, hz, l0, l1, l2, hp⟩ := hP
  have a31 := hA.1.2.2.2
  have c1 : Steps p.tables e below (s₁.setTop (entryFrame m #[.ref a, .ref b, .int (Int32.ofNat o), .int (Int32.ofNat len), .null] 6)) (s₁.setTop (mkF m 0 #[.val (.ref a), .val (.ref b), .val (.int (Int32.ofNat o)), .val (.int (Int32.ofNat len)), .val .null, .unset] [])) := entry rfl
  have c2 : Steps p.tables e below (s₁.setTop (entryFrame m #[.ref a, .ref b, .int (Int32.ofNat o), .int (Int32.ofNat len), .null] 6)) (s₁.setTop (mkF m 1 #[.val (.ref a), .val (.ref b), .val (.int (Int32.ofNat o)), .val (.int (Int32.ofNat len)), .val .null, .unset] [.ref a])) := c1.trans (by
    refine XS.aloadN X0.here hexec rfl (hb hbytes d0) rfl rfl ?_
    exact Steps.refl _)
  obtain ⟨T3, X3, q3, st3⟩ := X0.oinit hexec hown (wks W (objW "java/lang/String" 1)) (g := (mkF m 1 #[.val (.ref a), .val (.ref b), .val (.int (Int32.ofNat o)), .val (.int (Int32.ofNat len)), .val .null, .unset] [.ref a])) rfl (by rw [hml]; rfl) (rest := []) rfl (hb hbytes d1) (W := 0) (by show 2 * 0 + 0 ≤ _; decide) (Nat.le_of_ble_eq_true rfl) (Nat.le_of_ble_eq_true rfl)
  have hh3 := q3.trans hh0
  have c4 : Steps p.tables e below (s₁.setTop (entryFrame m #[.ref a, .ref b, .int (Int32.ofNat o), .int (Int32.ofNat len), .null] 6)) (T3.setTop (mkF m 27 #[.val (.ref a), .val (.ref b), .val (.int (Int32.ofNat o)), .val (.int (Int32.ofNat len)), .val .null, .unset] [])) := (c2.trans (st3 _ (Steps.refl _))).trans (by
    refine XS.iloadN X3.here hexec rfl (hb hbytes d4) rfl ?_
    refine XS.ifYes X3.here hexec rfl (pc0 := 5) rfl (hb hbytes d5) rfl (i0_ne_t (nz32 (by omega) l0)) (by decide) rfl ?_
    exact Steps.refl _)
  obtain ⟨T5, X5, q5, st5⟩ := X3.sget hexec hown (wk W (.fieldLink "java/lang/String" 38 "java/lang/String" "COMPACT_STRINGS" "Z")) s1 (fun _ _ h => by rw [hh3]; exact h) (g := (mkF m 27 #[.val (.ref a), .val (.ref b), .val (.int (Int32.ofNat o)), .val (.int (Int32.ofNat len)), .val .null, .unset] [])) rfl (hb hbytes d27)
  have hh5 := q5.trans hh3
  have c6 : Steps p.tables e below (s₁.setTop (entryFrame m #[.ref a, .ref b, .int (Int32.ofNat o), .int (Int32.ofNat len), .null] 6)) (T5.setTop (mkF m 30 #[.val (.ref a), .val (.ref b), .val (.int (Int32.ofNat o)), .val (.int (Int32.ofNat len)), .val .null, .unset] [.int z])) := c4.trans (st5 _ (Steps.refl _))
  have c7 : Steps p.tables e below (s₁.setTop (entryFrame m #[.ref a, .ref b, .int (Int32.ofNat o), .int (Int32.ofNat len), .null] 6)) (T5.setTop (mkF m 36 #[.val (.ref a), .val (.ref b), .val (.int (Int32.ofNat o)), .val (.int (Int32.ofNat len)), .val .null, .unset] [.int (Int32.ofNat len), .int (Int32.ofNat o), .ref b])) := c6.trans (by
    refine XS.ifNo X5.here hexec rfl (hb hbytes d30) rfl (i0_eq_f hz) ?_
    refine XS.aloadN X5.here hexec rfl (hb hbytes d33) rfl rfl ?_
    refine XS.iloadN X5.here hexec rfl (hb hbytes d34) rfl ?_
    refine XS.iloadN X5.here hexec rfl (hb hbytes d35) rfl ?_
    exact Steps.refl _)
  obtain ⟨v8, T8, X8, E8, g8⟩ := X5.callS hexec (Cmp3.law l b A o len) hown (wks W (staticW "java/lang/String" 177 Cmp3.yN)) (wk W Cmp3.tab) (W := 0) (Nat.le_of_ble_eq_true rfl) (Nat.le_of_ble_eq_true rfl) (Nat.le_refl _) (by show 0 + len ≤ len; omega) (g := (mkF m 36 #[.val (.ref a), .val (.ref b), .val (.int (Int32.ofNat o)), .val (.int (Int32.ofNat len)), .val .null, .unset] [.int (Int32.ofNat len), .int (Int32.ofNat o), .ref b])) rfl (by rw [hml]; rfl) c7 (argsL := [.ref b, .int (Int32.ofNat o), .int (Int32.ofNat len)]) (rest := []) rfl rfl (by show 2 * 0 + 0 ≤ _; decide) (hb hbytes d36) (⟨rfl, hA.mv X5.warmed.alike hh5, l1, l2, hp⟩)
  obtain ⟨e8, z8⟩ := E8
  obtain ⟨rfl, N, n1, n2, n3, n4, n5, n6⟩ := NewArr.mv _ T5 s _ _ hh5.symm (Vm.Alike.refl _) rfl e8
  rw [hh5] at z8
  have hB1 := hB.keep X8.warmed.alike (n6 _ _ hB.1)
  have hne : s.heap.size ≠ a := (Nat.ne_of_lt (Array.getElem?_eq_some_iff.mp hB.1).1).symm
  have c9 : Steps p.tables e below (s₁.setTop (entryFrame m #[.ref a, .ref b, .int (Int32.ofNat o), .int (Int32.ofNat len), .null] 6)) (T8.setTop (mkF m 39 #[.val (.ref a), .val (.ref b), .val (.int (Int32.ofNat o)), .val (.int (Int32.ofNat len)), .val .null, .unset] [.ref s.heap.size])) := g8
  have c10 : Steps p.tables e below (s₁.setTop (entryFrame m #[.ref a, .ref b, .int (Int32.ofNat o), .int (Int32.ofNat len), .null] 6)) (T8.setTop (mkF m 45 #[.val (.ref a), .val (.ref b), .val (.int (Int32.ofNat o)), .val (.int (Int32.ofNat len)), .val .null, .val (.ref s.heap.size)] [.int (Int32.ofNat N.slots.size), .ref s.heap.size, .ref a])) := by
    have hc : Steps p.tables e below (s₁.setTop (entryFrame m #[.ref a, .ref b, .int (Int32.ofNat o), .int (Int32.ofNat len), .null] 6)) (T8.setTop (mkF m 45 #[.val (.ref a), .val (.ref b), .val (.int (Int32.ofNat o)), .val (.int (Int32.ofNat len)), .val .null, .val (.ref s.heap.size)] [.int (Int32.ofNat len), .ref s.heap.size, .ref a])) := c9.trans (by
      refine XS.astore X8.here hexec rfl (hb hbytes d39) rfl rfl rfl ?_
      refine XS.aloadN X8.here hexec rfl (hb hbytes d41) rfl rfl ?_
      refine XS.aload X8.here hexec rfl (hb hbytes d42) rfl rfl ?_
      refine XS.iloadN X8.here hexec rfl (hb hbytes d44) rfl ?_
      exact Steps.refl _)
    rw [n4]; exact hc
  obtain ⟨v11, T11, X11, E11, g11⟩ := X8.callS hexec (CodL.law l s.heap.size N) hown (wks W (staticW "java/lang/String" 47 CodL.yN)) (wk W CodL.tab) (W := 1) (Nat.le_of_ble_eq_true rfl) (Nat.le_of_ble_eq_true rfl) (Nat.le_refl _) (by show 0 + len + 0 ≤ len; omega) (g := (mkF m 45 #[.val (.ref a), .val (.ref b), .val (.int (Int32.ofNat o)), .val (.int (Int32.ofNat len)), .val .null, .val (.ref s.heap.size)] [.int (Int32.ofNat N.slots.size), .ref s.heap.size, .ref a])) rfl (by rw [hml]; rfl) c10 (argsL := [.ref s.heap.size, .int (Int32.ofNat N.slots.size)]) (rest := [.ref a]) rfl rfl (by show 2 * 0 + (1 + 0) ≤ _; decide) (hb hbytes d45) (⟨rfl, n1⟩)
  obtain ⟨rfl, q11⟩ := E11
  have hB11 := hB1.mv (X8.warmed.alike.symm.trans X11.warmed.alike) q11
  have c12 : Steps p.tables e below (s₁.setTop (entryFrame m #[.ref a, .ref b, .int (Int32.ofNat o), .int (Int32.ofNat len), .null] 6)) (T11.setTop (mkF m 48 #[.val (.ref a), .val (.ref b), .val (.int (Int32.ofNat o)), .val (.int (Int32.ofNat len)), .val .null, .val (.ref s.heap.size)] [.int 0, .ref a])) := g11
  obtain ⟨T13, X13, p13, bl13, sl13, st13⟩ := X11.finit hexec hown (wk W (.fieldLink "java/lang/String" 15 "java/lang/String" "coder" "B")) (Or.inr ⟨_, (wk W (.laysFinal "java/lang/String" "java/lang/String" "coder" "B"))⟩) (Or.inl ⟨rfl, hnm⟩) f2 (Or.inl rfl) hB11 (t := .byte) (by decide +kernel) rfl (g := (mkF m 48 #[.val (.ref a), .val (.ref b), .val (.int (Int32.ofNat o)), .val (.int (Int32.ofNat len)), .val .null, .val (.ref s.heap.size)] [.int 0, .ref a])) rfl (rest := []) rfl (hb hbytes d48)
  have c14 : Steps p.tables e below (s₁.setTop (entryFrame m #[.ref a, .ref b, .int (Int32.ofNat o), .int (Int32.ofNat len), .null] 6)) (T13.setTop (mkF m 54 #[.val (.ref a), .val (.ref b), .val (.int (Int32.ofNat o)), .val (.int (Int32.ofNat len)), .val .null, .val (.ref s.heap.size)] [.ref s.heap.size, .ref a])) := (c12.trans (st13 _ (Steps.refl _))).trans (by
    refine XS.aloadN X13.here hexec rfl (hb hbytes d51) rfl rfl ?_
    refine XS.aload X13.here hexec rfl (hb hbytes d52) rfl rfl ?_
    exact Steps.refl _)
  obtain ⟨T15, X15, p15, bl15, sl15, st15⟩ := X13.finit hexec hown (wk W (.fieldLink "java/lang/String" 9 "java/lang/String" "value" "[B")) (Or.inr ⟨_, (wk W (.laysFinal "java/lang/String" "java/lang/String" "value" "[B"))⟩) (Or.inl ⟨rfl, hnm⟩) f1 (Or.inl rfl) bl13 (t := (.array .byte)) (by decide +kernel) rfl (g := (mkF m 54 #[.val (.ref a), .val (.ref b), .val (.int (Int32.ofNat o)), .val (.int (Int32.ofNat len)), .val .null, .val (.ref s.heap.size)] [.ref s.heap.size, .ref a])) rfl (rest := []) rfl (hb hbytes d54)
  have c16 : Steps p.tables e below (s₁.setTop (entryFrame m #[.ref a, .ref b, .int (Int32.ofNat o), .int (Int32.ofNat len), .null] 6)) (T15.setTop (mkF m 57 #[.val (.ref a), .val (.ref b), .val (.int (Int32.ofNat o)), .val (.int (Int32.ofNat len)), .val .null, .val (.ref s.heap.size)] [])) := c14.trans (st15 _ (Steps.refl _))
  have ap := apart (Or.inr ⟨_, (wk W (.laysFinal "java/lang/String" "java/lang/String" "value" "[B"))⟩) (Or.inr ⟨_, (wk W (.laysFinal "java/lang/String" "java/lang/String" "coder" "B"))⟩) f1 f2 (t₁ := .array .byte) (t₂ := .byte) (by decide +kernel) (by decide +kernel) (by decide)
  have al := X8.warmed.alike.symm.trans X15.warmed.alike
  have n7 : T11.heap[s.heap.size]? = some N := by rw [q11]; exact n1.1
  exact ⟨T15, none, _, _, _, X15, by simp, rfl, by omega, (fun _ => rfl), ⟨rfl, _, N, bl15, ((Same.refl D _).set _ (by simp)).set _ (by simp), sl15, (Cell.slots_setSlot_ne _ ap).trans sl13, n1.keep al (p15.other hne (p13.other hne n7)), n2, by rw [al.findClass]; exact n3, n4, n5, fun y c h1 h2 => p15.other h1 (p13.other h1 (by rw [q11]; exact n6 y c h2)), by rw [p15.2.2, p13.2.2, q11]; exact z8⟩, fun fs hl => c16.trans (X15.returnOut hexec hret (hb hbytes d57) hl)⟩
end New4
namespace New1
def yN : MethodName := ⟨"java/lang/String", "<init>", "([C)V"⟩
abbrev yB : ByteArray := jdk_42_method_3_code
theorem d0 : decode yB 0 = .ok (.aload_n 0, 1) := by decide +kernel
theorem d1 : decode yB 1 = .ok (.aload_n 1, 1) := by decide +kernel
theorem d2 : decode yB 2 = .ok (.iconst 0, 1) := by decide +kernel
theorem d3 : decode yB 3 = .ok (.aload_n 1, 1) := by decide +kernel
theorem d4 : decode yB 4 = .ok (.arraylength, 1) := by decide +kernel
theorem d5 : decode yB 5 = .ok (.aconst_null, 1) := by decide +kernel
theorem d6 : decode yB 6 = .ok (.invokespecial 27, 3) := by decide +kernel
theorem d9 : decode yB 9 = .ok (.return_, 1) := by decide +kernel
def site : List Cond := [New4.tab] ++ initW "java/lang/String" 27 New4.yN
def tab : Cond := tabOf yN yB 2 none site
def P (a : Addr) (D : Cell) (fV fC : Field) (b : Addr) (A : Cell) (z : Int32) (args : Array Value) (s : State) : Prop := args = #[.ref a, .ref b] ∧ Blank "java/lang/String" a D s ∧ Found "java/lang/String" "value" "[B" fV s ∧ Found "java/lang/String" "coder" "B" fC s ∧ Ch b A s ∧ StaticIs s "java/lang/String" "COMPACT_STRINGS" "Z" (.int z) ∧ ¬ z = 0 ∧ 0 < A.slots.size ∧ A.slots.size ≤ 536870912 ∧ ∀ i, i < A.slots.size → ¬ 255 < cv A i
def E (a : Addr) (D : Cell) (fV fC : Field) (A : Cell) (r : Option Value) (s u : State) : Prop := Got a D fV fC A 0 A.slots.size r s u
/-- new String(chars), not empty, no char above 255: a Latin-1 String of their low bytes -/
theorem law (l : Launch) (a : Addr) (D : Cell) (fV fC : Field) (b : Addr) (A : Cell) (z : Int32) : Law l yN 2 1 3 52 yB 2 none site (P a D fV fC b A z) (E a D fV fC A) [⟨a, fC.slot⟩, ⟨a, fV.slot⟩] 1 A.slots.size := by
  refine Law.of_walk (plainFor_of_name (by decide +kernel)) (by decide +kernel) (by decide +kernel) (by decide) (fun _ _ h => by rw [h.1]; rfl) (fun _ U U' hal hh h => ⟨h.1, h.2.1.mv hal hh, h.2.2.1.al hal, h.2.2.2.1.al hal, h.2.2.2.2.1.mv hal hh, h.2.2.2.2.2.1.there hal hh, h.2.2.2.2.2.2⟩) (fun r U U' V V' h1 hal h2 h => Got.mv r U U' V V' h1 hal h2 h) ?_
  intro p e s m args below meth c s₁ X0 hexec hbytes hml hret hlk hnm hown hh0 W hP
  obtain ⟨rfl, hB, f1, f2, hA, s1, hz, l0, l2, hp⟩ := hP
  have c1 : Steps p.tables e below (s₁.setTop (entryFrame m #[.ref a, .ref b] 2)) (s₁.setTop (mkF m 0 #[.val (.ref a), .val (.ref b)] [])) := entry rfl
  have c2 : Steps p.tables e below (s₁.setTop (entryFrame m #[.ref a, .ref b] 2)) (s₁.setTop (mkF m 6 #[.val (.ref a), .val (.ref b)] [.null, .int (Int32.ofNat A.slots.size), .int 0, .ref b, .ref a])) := c1.trans (by
    refine XS.aloadN X0.here hexec rfl (hb hbytes d0) rfl rfl ?_
    refine XS.aloadN X0.here hexec rfl (hb hbytes d1) rfl rfl ?_
    refine iconstV X0.here hexec rfl 0 (hb hbytes d2) (by decide) ?_
    refine XS.aloadN X0.here hexec rfl (hb hbytes d3) rfl rfl ?_
    refine X0.alen hexec (hA.1.mv X0.warmed.alike hh0) rfl rfl (hb hbytes d4) ?_
    refine XS.aconstNull X0.here hexec rfl (hb hbytes d5) ?_
    exact Steps.refl _)
  obtain ⟨v3, T3, X3, E3, g3⟩ := X0.callN hexec (New4.law l a D fV fC b A z 0 A.slots.size) rfl hown (wks W (initW "java/lang/String" 27 New4.yN)) (W New4.tab (by simp only [site, List.mem_cons, List.mem_append, true_or, or_true])) (W := 0) (Nat.le_of_ble_eq_true rfl) (Nat.le_of_ble_eq_true rfl) (Nat.le_refl _) (by show 0 + A.slots.size ≤ A.slots.size; omega) (g := (mkF m 6 #[.val (.ref a), .val (.ref b)] [.null, .int (Int32.ofNat A.slots.size), .int (Int32.ofNat 0), .ref b, .ref a])) rfl (by rw [hml]; rfl) c2 (argsL := [.ref b, .int (Int32.ofNat 0), .int (Int32.ofNat A.slots.size), .null]) (rest := []) rfl rfl (by show 2 * 0 + 0 ≤ _; decide) (hb hbytes d6) (⟨rfl, hB.mv X0.warmed.alike hh0, f1.al X0.warmed.alike, f2.al X0.warmed.alike, hA.mv X0.warmed.alike hh0, s1.there X0.warmed.alike hh0, hz, l0, by omega, l2, fun i hi => by rw [Nat.zero_add]; exact hp i hi⟩)
  have e0 := Got.mv _ s₁ s _ _ hh0.symm (Vm.Alike.refl _) rfl E3
  obtain rfl := e0.1
  have c4 : Steps p.tables e below (s₁.setTop (entryFrame m #[.ref a, .ref b] 2)) (T3.setTop (mkF m 9 #[.val (.ref a), .val (.ref b)] [])) := g3
  exact ⟨T3, none, _, _, _, X3, by simp, rfl, by omega, (fun _ => rfl), e0, fun fs hl => c4.trans (X3.returnOut hexec hret (hb hbytes d9) hl)⟩
theorem pays {l : Launch} {R : Room} {p : Program} {e : Env} {below : List Frame} {s : State} {sargs : Array Value} {len W : Nat} (a : Addr) (D : Cell) (fV fC : Field) (b : Addr) (A : Cell) (z : Int32) (htab : tab.before sargs s = true) (hfr : 4 ≤ R.frames) (hlo : W + 65 ≤ R.locals) :
    Back l R p e below s sargs yN len W (fun A₁ a₁ => A₁.cells + 1 ≤ R.cells ∧ A₁.slots + A.slots.size ≤ R.slots ∧ P a D fV fC b A z a₁ A₁.U) (fun A₁ _ v₁ B₁ => E a D fV fC A v₁ A₁.U B₁.U ∧ B₁.locs = A₁.locs ++ [⟨a, fC.slot⟩, ⟨a, fV.slot⟩] ∧ B₁.cells = A₁.cells + 1 ∧ B₁.slots = A₁.slots + A.slots.size) :=
  (law l a D fV fC b A z).pays htab hfr (by omega)
end New1
/-- the byte, read back as charAt reads it, is the char -/
theorem lo8_mask {x : Int32} (h0 : ¬ x < 0) (h1 : ¬ 255 < x) : lo8 x &&& 255 = x := by
  have t : ∀ k : Fin 256, lo8 (Int32.ofNat k.val) &&& 255 = Int32.ofNat k.val := by decide +kernel
  rw [Int32.lt_iff_toInt_lt] at h0 h1
  have e0 : (0 : Int32).toInt = 0 := rfl
  have e1 : (255 : Int32).toInt = 255 := rfl
  obtain ⟨k, hk⟩ : ∃ k : Nat, x.toInt = k := ⟨x.toInt.toNat, by omega⟩
  have hx : x = Int32.ofNat k := Int32.toInt_inj.mp (by rw [hk, Int32.toInt_ofNat_small (by omega)])
  rw [hx]
  exact t ⟨k, by omega⟩
end StrChars
namespace StrChars.Road
open Jvm Sem ClassFile Op Lib Jvm.Stand Jvm.Free Jvm.Free.XT
open Jvm.Lib.Cold (StaticIs)
abbrev ST : String := "java/lang/String"
/-- every table word that New1's law asks, flat -/
abbrev words : List Jvm.Cond := [.code New1.yN New1.yB 2 none, .initialized ST, .methodLink ST 27 New4.yN, .instanceMethod New4.yN,
  .code New4.yN New4.yB 6 none, .fieldLink ST 38 ST "COMPACT_STRINGS" "Z", .laysFinal ST ST "value" "[B", .fieldLink ST 9 ST "value" "[B", .laysFinal ST ST "coder" "B", .fieldLink ST 15 ST "coder" "B",
  .methodLink ST 1 Lib.objectInit, .instanceMethod Lib.objectInit, .code Lib.objectInit ⟨#[0xb1]⟩ 1 none, .methodLink ST 177 Cmp3.yN, .static Cmp3.yN, .methodLink ST 47 CodL.yN, .static CodL.yN,
  .code Cmp3.yN Cmp3.yB 6 (some (.array .byte)), .initialized U16, .arrayClass .byte, .methodLink U16 115 Cmp5.yN, .static Cmp5.yN, .code Cmp5.yN Cmp5.yB 7 (some .int), .code CodL.yN CodL.yB 2 (some .byte)]
theorem tab_of {a : Array Value} {s : State} (h : ∀ w ∈ words, w.before a s = true) : New1.tab.before a s = true := by
  have h5 : Cmp5.tab.before a s = true := unparts (wk h (.code Cmp5.yN Cmp5.yB 7 (some .int))) (wks h (.initialized Cmp5.yN.cls :: Cmp5.site))
  have hc : CodL.tab.before a s = true := unparts (wk h (.code CodL.yN CodL.yB 2 (some .byte))) (wks h (.initialized CodL.yN.cls :: CodL.site))
  have q5 : ∀ w ∈ Cmp5.tab :: words, w.before a s = true := fun w hw => (List.mem_cons.mp hw).elim (fun e => e ▸ h5) (h w)
  have h3 : Cmp3.tab.before a s = true := unparts (wk q5 (.code Cmp3.yN Cmp3.yB 6 (some (.array .byte)))) (wks q5 (.initialized Cmp3.yN.cls :: Cmp3.site))
  have q3 : ∀ w ∈ Cmp3.tab :: CodL.tab :: words, w.before a s = true := fun w hw => (List.mem_cons.mp hw).elim (fun e => e ▸ h3) fun hw => (List.mem_cons.mp hw).elim (fun e => e ▸ hc) (h w)
  have h4 : New4.tab.before a s = true := unparts (wk q3 (.code New4.yN New4.yB 6 none)) (wks q3 (.initialized New4.yN.cls :: New4.site))
  have q4 : ∀ w ∈ New4.tab :: words, w.before a s = true := fun w hw => (List.mem_cons.mp hw).elim (fun e => e ▸ h4) (h w)
  exact unparts (wk q4 (.code New1.yN New1.yB 2 none)) (wks q4 (.initialized New1.yN.cls :: New1.site))
/-- the words ride from the start Z to the walk's own state -/
theorem moved {Z s : State} {a0 args : Array Value} (hZ : Z.Warmed39 s.vm) (hw : ∀ d ∈ words, d.before a0 Z = true) : ∀ d ∈ words, d.before args s = true := fun d hd => by
  have q := hw d hd
  have t : ∀ d ∈ words, d = .arrayClass .byte ∨ (d.onTables && d.keepsFace) = true := by decide +kernel
  rcases t d hd with rfl | t
  · exact RoadKit.mvA hZ q
  · exact RoadKit.mv hZ q t
/-- WHAT COMES BACK, over the tables of the start Z: h the heap at the call, h' behind it -/
def Q (Z : State) (x : Addr) (A : Cell) (h : Heap) (v : Option Value) (h' : Heap) (L : List Loc) : Prop := v = none ∧ (∀ y ∈ L, y.base = x) ∧ RoadKit.Keep h h' [x] ∧ h'.size = h.size + 1 ∧ RoadKit.Exa Z h' x ST ∧ RoadKit.Fld Z h' x ST "value" "[B" (.ref h.size) ∧ RoadKit.Fld Z h' x ST "coder" "B" (.int 0) ∧
  (∃ V : Cell, RoadKit.Arr Z h' h.size V .byte ∧ V.vm = .none ∧ Z.vm.findClass "[B" = some V.cls ∧ V.slots.size = A.slots.size ∧ ∀ j, j < A.slots.size → V.slots[j]? = some (.int (lo8 (cv A j)))) ∧
  ∀ (O n d : String) (w : Value), RoadKit.Fld Z h x O n d w → RoadKit.slotOf Z O n d ≠ RoadKit.slotOf Z ST "value" "[B" → RoadKit.slotOf Z O n d ≠ RoadKit.slotOf Z ST "coder" "B" → RoadKit.Fld Z h' x O n d w
/-- **new String(chars) AT A CALL, IN THE ROAD'S FORM**: for specialBack behind newO: x the fresh String, b the char[] with the cell A -/
theorem back {p : Program} {l : Launch} {e : Env} {R : Room} {s : State} {args : Array Value} {below : List Frame} {len W : Nat} {Z : State} {a0 : Array Value} {h : Heap} (hZ : Z.Warmed39 s.vm) (hw : ∀ d ∈ words, d.before a0 Z = true) {kI : Nat} (wi : (Jvm.Cond.instantiable ST kI).before a0 Z = true)
    {x b : Addr} {A : Cell} {z : Int32} {v0 c0 : Value} (E : RoadKit.Exa Z h x ST) (V : RoadKit.Fld Z h x ST "value" "[B" v0) (C : RoadKit.Fld Z h x ST "coder" "B" c0) (K : RoadKit.Arr Z h b A .char) (hty : Typed .char A) (S : RoadKit.Sta Z h ST "COMPACT_STRINGS" "Z" (.int z)) (hz : ¬ z = 0)
    (l0 : 0 < A.slots.size) (l2 : A.slots.size ≤ 536870912) (hp : ∀ i, i < A.slots.size → ¬ 255 < cv A i) (hfr : 4 ≤ R.frames) (hlo : W + 65 ≤ R.locals) :
    Back l R p e below s args New1.yN len W (fun P a => a = #[.ref x, .ref b] ∧ P.U.heap = h ∧ P.cells + 1 ≤ R.cells ∧ P.slots + A.slots.size ≤ R.slots)
      (fun P _ v B => ∃ L, Q Z x A h v B.U.heap L ∧ B.locs = P.locs ++ L ∧ B.cells = P.cells + 1 ∧ B.slots = P.slots + A.slots.size) := by
  intro m meth c P g ig mk a X hg hsize hdg hW hn hp'
  obtain ⟨rfl, rfl, r1, r2⟩ := hp'
  have al : Z.vm.Alike P.U.vm := hZ.alike.trans X.warmed.alike
  obtain ⟨D, cfV, kV, iV, fV, hD, gV, stV, knV, obV, asV, slV⟩ := id V
  obtain ⟨D', cfC, kC, iC, fC, hD', gC, stC, -, -, asC, slC⟩ := id C
  cases hD.symm.trans hD'
  obtain ⟨D2, kD, e1, e2, e3, e4, e5⟩ := id E
  cases hD.symm.trans e1
  obtain ⟨c2, k2, i1, i2, i3, -⟩ := Cond.instantiable_spec wi
  cases e2.symm.trans i1
  cases e3.symm.trans i2
  obtain ⟨kU, u1, u2⟩ := al.2.2 _ _ e3
  have hB : Blank ST x D P.U := ⟨hD, ⟨knV, fun q hq => by rw [hq] at obV; cases obV⟩, by rw [al.findClass]; exact e2, kU, u1, by rw [u2]; exact i3, by rw [u2]; exact e5 i3⟩
  have F1 : Found ST "value" "[B" fV P.U := ⟨SBG.found_only al ⟨cfV, kV, iV, gV⟩, stV⟩
  have F2 : Found ST "coder" "B" fC P.U := ⟨SBG.found_only al ⟨cfC, kC, iC, gC⟩, stC⟩
  have hA : Ch b A P.U := ⟨⟨K.1, State.isArrayOf_alike al K.2.1, K.2.2, by omega⟩, hty⟩
  have hS : StaticIs P.U ST "COMPACT_STRINGS" "Z" (.int z) := by
    obtain ⟨cfS, iS, kS, fS, st, cS, t1, t2, t3, t4, t5, t6, t7⟩ := S
    exact StaticIs.there (s := { Z with heap := P.U.heap }) ⟨cfS, iS, kS, fS, st, cS, t1, t2, t3, t4, t5, (fun q => by rw [q] at t6; cases t6), t7⟩ al rfl
  obtain ⟨v, B, X', ⟨⟨hv, E', V', q1, q2, q3, q4, q5, q6, q7, q8, q9, q10, q11⟩, hl, hc, hs⟩, st⟩ := New1.pays x D fV fC b A z (tab_of (moved hZ hw)) hfr hlo m meth c P g ig mk _ X hg hsize hdg hW hn ⟨r1, r2, rfl, hB, F1, F2, hA, hS, hz, l0, l2, hp⟩
  have al' : Z.vm.Alike B.U.vm := hZ.alike.trans X'.warmed.alike
  have hsz : E'.slots.size = D.slots.size := by
    obtain ⟨-, -, -, kB, w1, w2, w3⟩ := q1
    obtain ⟨kB', y1, y2⟩ := al'.2.2 _ _ e3
    rw [q2.2.1] at w1
    cases w1.symm.trans y1
    rw [w3, e5 i3, y2]
  refine ⟨v, B, X', ⟨_, ⟨hv, ?_, ⟨by omega, fun y cy hy hn' => q10 y cy (by simpa using hn') hy, fun y cy hy => ?_⟩, q11, ⟨E', _, q1.1, by rw [q2.2.1]; exact e2, by rw [q2.2.1]; exact e3, by rw [q2.1]; exact obV, fun _ => by rw [hsz]; exact e5 i3⟩,
    ⟨E', cfV, kV, iV, fV, q1.1, gV, stV, by rw [q2.1]; exact knV, by rw [q2.1]; exact obV, by rw [q2.2.1]; exact asV, q3⟩, ⟨E', cfC, kC, iC, fC, q1.1, gC, stC, by rw [q2.1]; exact knV, by rw [q2.1]; exact obV, by rw [q2.2.1]; exact asC, q4⟩,
    ⟨V', ⟨q5.1, State.isArrayOf_alike al'.symm q5.2.1, q5.2.2.1⟩, q6, by rw [← al'.findClass]; exact q7, q8, fun j hj => by have := q9 j hj; rwa [Nat.zero_add] at this⟩, fun O n d w F n1 n2 => ?_⟩, hl, hc, hs⟩, st⟩
  · intro y hy
    simp only [List.mem_cons, List.not_mem_nil, or_false] at hy
    rcases hy with rfl | rfl <;> rfl
  · by_cases q : y = x
    · subst q
      cases hD.symm.trans hy
      exact ⟨E', q1.1, q2.2.1, q2.1, hsz⟩
    · exact ⟨cy, q10 y cy q hy, rfl, rfl, rfl⟩
  · obtain ⟨D3, cf, k, i, f, g1, g2, g3, g4, g5, g6, g7⟩ := F
    cases hD.symm.trans g1
    simp only [RoadKit.slotOf, g2, gV, gC, Option.map_some, Option.getD_some] at n1 n2
    exact ⟨E', cf, k, i, f, q1.1, g2, g3, by rw [q2.1]; exact g4, by rw [q2.1]; exact g5, by rw [q2.2.1]; exact g6, by rw [q2.2.2 f.slot (by simp [n1, n2])]; exact g7⟩
end StrChars.Road
namespace StrChars.Road
open Jvm Sem ClassFile Op Lib Jvm.Stand Jvm.Free Jvm.Free.XT
/-- WHAT COMES BACK, the byte[] as a list of values -/
def QA (Z : State) (x : Addr) (zn : Int32) (cs : List Int32) (h : Heap) (v : Option Value) (h' : Heap) (L : List Loc) : Prop := v = none ∧ (∀ y ∈ L, y.base = x) ∧ RoadKit.Keep h h' [x] ∧ h'.size = h.size + 1 ∧ RoadKit.Exa Z h' x ST ∧ RoadKit.Fld Z h' x ST "value" "[B" (.ref h.size) ∧ RoadKit.Fld Z h' x ST "coder" "B" (.int 0) ∧
  (∃ kb, Z.vm.findClass "[B" = some kb ∧ RoadKit.Arv Z h' h.size kb .byte zn (cs.map fun c => .int (lo8 c)) (.int 0)) ∧
  ∀ (O n d : String) (w : Value), RoadKit.Fld Z h x O n d w → RoadKit.slotOf Z O n d ≠ RoadKit.slotOf Z ST "value" "[B" → RoadKit.slotOf Z O n d ≠ RoadKit.slotOf Z ST "coder" "B" → RoadKit.Fld Z h' x O n d w
/-- **new String(chars) AT A CALL, THE ARRAYS AS LISTS**: the char[] at b holds cs, not empty, no char above 255 -/
theorem backArv {p : Program} {l : Launch} {e : Env} {R : Room} {s : State} {args : Array Value} {below : List Frame} {len W : Nat} {Z : State} {a0 : Array Value} {h : Heap} (hZ : Z.Warmed39 s.vm) (hw : ∀ d ∈ words, d.before a0 Z = true) {kI : Nat} (wi : (Jvm.Cond.instantiable ST kI).before a0 Z = true)
    {x b : Addr} {k : ClassId} {zn z : Int32} {cs : List Int32} {dv v0 c0 : Value} (E : RoadKit.Exa Z h x ST) (V : RoadKit.Fld Z h x ST "value" "[B" v0) (C : RoadKit.Fld Z h x ST "coder" "B" c0) (K : RoadKit.Arv Z h b k .char zn (cs.map Value.int) dv) (S : RoadKit.Sta Z h ST "COMPACT_STRINGS" "Z" (.int z)) (hz : ¬ z = 0)
    (hlen : zn.toNatClampNeg = cs.length) (h0 : 0 < cs.length) (hbig : cs.length ≤ 536870912) (hall : ∀ c ∈ cs, ¬ 255 < c) (hfr : 4 ≤ R.frames) (hlo : W + 65 ≤ R.locals) :
    Back l R p e below s args New1.yN len W (fun P a => a = #[.ref x, .ref b] ∧ P.U.heap = h ∧ P.cells + 1 ≤ R.cells ∧ P.slots + cs.length ≤ R.slots)
      (fun P _ v B => ∃ L, QA Z x zn cs h v B.U.heap L ∧ B.locs = P.locs ++ L ∧ B.cells = P.cells + 1 ∧ B.slots = P.slots + cs.length) := by
  obtain ⟨A, K1, K2, K3, K4, K5, K6⟩ := K
  have e : A.slots.size = cs.length := K3.trans hlen
  have hat : ∀ (i : Nat) (hi : i < cs.length), A.slots[i]? = some (.int cs[i]) := fun i hi => by rw [K5 i (by omega)]; simp [List.getD_eq_getElem?_getD, hi]
  have hcv : ∀ (i : Nat) (hi : i < cs.length), cv A i = cs[i] := fun i hi => by unfold cv; rw [hat i hi]
  have hty : Typed .char A := fun i v hv => by
    have hi : i < A.slots.size := (Array.getElem?_eq_some_iff.mp hv).1
    have q := K5 i hi
    rw [hv] at q
    rw [Option.some.inj q]
    exact K6 i hi
  refine Back.mono (back hZ hw wi E V C K1 hty S hz (by omega) (by omega) (fun i hi => by rw [hcv i (by omega)]; exact hall _ (List.getElem_mem _)) hfr hlo) (fun P a hp => ⟨hp.1, hp.2.1, hp.2.2.1, by rw [e]; exact hp.2.2.2⟩) (fun P a v B hp hq => ?_)
  obtain ⟨L, ⟨q1, q2, q3, q4, q5, q6, q7, ⟨V', v1, v2, v3, v4, v5⟩, q9⟩, hl, hc, hs⟩ := hq
  refine ⟨L, ⟨q1, q2, q3, q4, q5, q6, q7, ⟨V'.cls, v3, V', v1, rfl, by rw [v4, e, hlen], K4, fun i hi => ?_, fun i hi => ?_⟩, q9⟩, hl, hc, by rw [hs, e]⟩
  · have hi' : i < cs.length := by omega
    rw [v5 i (by omega), hcv i hi']; simp [List.getD_eq_getElem?_getD, hi']
  · have hi' : i < cs.length := by omega
    simp only [List.getD_eq_getElem?_getD, List.getElem?_map, List.getElem?_eq_getElem hi', Option.map_some, Option.getD_some]
    exact fits_lo8 _
end StrChars.Road
namespace StrChars.Road
open Jvm Sem ClassFile Op Lib Jvm.Stand Jvm.Free Jvm.Free.XT
/-- WHAT COMES BACK, in the writer's own shape -/
def QV (Z : State) (x : Addr) (N : Int32) (bs : List Int32) (h : Heap) (n0 : Nat) (v : Option Value) (h' : Heap) (L : List Loc) : Prop := v = none ∧ RoadKit.Fr n0 L ∧ RoadKit.Keep h h' [x] ∧ RoadKit.Exa Z h' x ST ∧ RoadKit.Fld Z h' x ST "coder" "B" (.int 0) ∧
  ∃ (t : Addr) (kb : ClassId), n0 ≤ t ∧ h.size ≤ t ∧ ¬ t = x ∧ RoadKit.Fld Z h' x ST "value" "[B" (.ref t) ∧ RoadKit.Arv Z h' t kb .byte N (bs.map Value.int) (.int 0)
/-- **new String(chars) AT A CALL, FOR THE WRITER**: a char[] of n known ints, each 0 to 255 -/
theorem backV {p : Program} {l : Launch} {e : Env} {R : Room} {s : State} {args : Array Value} {below : List Frame} {len W : Nat} {Z : State} {a0 : Array Value} {h : Heap} (hZ : Z.Warmed39 s.vm) (hw : ∀ d ∈ words, d.before a0 Z = true) {kI : Nat} (wi : (Jvm.Cond.instantiable ST kI).before a0 Z = true)
    {x b : Addr} {kC : ClassId} {cs bs : List Int32} {d v0 c0 : Value} {z N : Int32} {n n0 : Nat} (hx0 : n0 ≤ x) (hh0 : n0 ≤ h.size) (E : RoadKit.Exa Z h x ST) (V : RoadKit.Fld Z h x ST "value" "[B" v0) (C : RoadKit.Fld Z h x ST "coder" "B" c0) (K : RoadKit.Arv Z h b kC .char N (cs.map Value.int) d) (S : RoadKit.Sta Z h ST "COMPACT_STRINGS" "Z" (.int z)) (hz : ¬ z = 0)
    (hn : cs.length = n) (hN : N = Int32.ofNat n) (l0 : 0 < n) (l2 : n ≤ 4000) (hp : ∀ c ∈ cs, ¬ c < 0 ∧ ¬ (255 : Int32) < c) (hb : bs = cs.map (fun c => c.toInt8.toInt32)) (hfr : 4 ≤ R.frames) (hlo : W + 65 ≤ R.locals) :
    Back l R p e below s args (⟨"java/lang/String", "<init>", "([C)V"⟩ : MethodName) len W (fun P a => a = #[.ref x, .ref b] ∧ P.U.heap = h ∧ P.cells + 1 ≤ R.cells ∧ P.slots + n ≤ R.slots)
      (fun P _ v B => ∃ L, QV Z x N bs h n0 v B.U.heap L ∧ B.locs = P.locs ++ L ∧ B.cells = P.cells + 1 ∧ B.slots = P.slots + n) := by
  subst hn hN hb
  refine Back.mono (backArv hZ hw wi E V C K S hz (n32 (by omega)) l0 (by omega) (fun c hc => (hp c hc).2) hfr hlo) (fun P a hp => hp) (fun P a v B hp hq => ?_)
  obtain ⟨L, ⟨q1, q2, q3, q4, q5, q6, q7, ⟨kb, v1, v2⟩, q9⟩, hl, hc, hs⟩ := hq
  exact ⟨L, ⟨q1, fun y hy => by rw [q2 y hy]; exact hx0, q3, q5, q7, h.size, kb, hh0, Nat.le_refl _, Nat.ne_of_gt E.lt, q6, by rw [List.map_map]; exact v2⟩, hl, hc, hs⟩
end StrChars.Road
namespace StrChars
open Jvm Sem ClassFile Op Lib Jvm.Stand Jvm.Free.XT Jvm.Free.ALB Jvm.Free.JM Jvm.Free
open Jvm.Lib.Cold (StaticIs)
def hi8 (x : Int32) : Int32 := lo8 (x >>> ((8 : Int32) &&& 31))
/-- what StringUTF16.getChar makes of two bytes -/
def pairCh (u v : Int32) : Int32 := (((u &&& 255) <<< ((0 : Int32) &&& 31)) ||| ((v &&& 255) <<< ((8 : Int32) &&& 31))).toUInt32.toUInt16.toUInt32.toInt32
theorem lo8_and (x : Int32) : (lo8 x &&& 255).toBitVec.toNat = x.toBitVec.toNat % 256 := by
  have h : (lo8 x).toBitVec = (x.toBitVec.signExtend 8).signExtend 32 := by rw [lo8, Int8.toBitVec_toInt32, Int32.toBitVec_toInt8]
  rw [Int32.toBitVec_and, BitVec.toNat_and, h]
  have e : ((x.toBitVec.signExtend 8).signExtend 32).toNat % 256 = x.toBitVec.toNat % 256 := by
    rw [BitVec.toNat_signExtend]
    have hlt := x.toBitVec.isLt
    simp only [BitVec.toNat_setWidth, BitVec.toNat_signExtend]
    split <;> split <;> omega
  rw [← e]
  exact Nat.and_two_pow_sub_one_eq_mod _ 8
theorem pair_says {c : Int32} (h0 : ¬ c < 0) (h1 : ¬ 65535 < c) : pairCh (lo8 c) (hi8 c) = c := by
  rw [Int32.lt_iff_toInt_lt] at h0 h1
  have e0 : (0 : Int32).toInt = 0 := rfl
  have e1 : (65535 : Int32).toInt = 65535 := rfl
  have hc : c.toInt = c.toBitVec.toNat := by
    have := c.toBitVec.isLt
    have e : c.toInt = c.toBitVec.toInt := rfl
    rw [e] at h0 h1
    rw [e]
    rw [BitVec.toInt_eq_toNat_cond] at h0 h1 ⊢
    split at h0 <;> split <;> omega
  have hn : c.toBitVec.toNat < 65536 := by omega
  have a1 := lo8_and c
  have a2 : (hi8 c &&& 255).toBitVec.toNat = c.toBitVec.toNat / 256 := by
    rw [hi8, lo8_and]
    have e : ((8 : Int32) &&& 31) = 8 := by decide
    rw [e, Int32.toBitVec_shiftRight]
    have e2 : ((8 : Int32).toBitVec.smod 32) = 8#32 := by decide
    rw [e2, BitVec.sshiftRight_eq', BitVec.toNat_sshiftRight_of_msb_false (by rw [BitVec.msb_eq_false_iff_two_mul_lt]; omega)]
    show c.toBitVec.toNat >>> 8 % 256 = _
    rw [Nat.shiftRight_eq_div_pow]
    omega
  unfold pairCh
  apply Int32.toBitVec_inj.mp
  apply BitVec.eq_of_toNat_eq
  have f0 : ((0 : Int32) &&& 31) = 0 := by decide
  have f8 : ((8 : Int32) &&& 31) = 8 := by decide
  rw [f0, f8]
  have g : (((lo8 c &&& 255) <<< (0 : Int32)) ||| ((hi8 c &&& 255) <<< (8 : Int32))).toBitVec.toNat = c.toBitVec.toNat := by
    rw [Int32.toBitVec_or, Int32.toBitVec_shiftLeft, Int32.toBitVec_shiftLeft]
    have s0 : ((0 : Int32).toBitVec.smod 32) = 0#32 := by decide
    have s8 : ((8 : Int32).toBitVec.smod 32) = 8#32 := by decide
    rw [s0, s8, BitVec.toNat_or]
    simp only [BitVec.shiftLeft_eq', BitVec.toNat_shiftLeft, a1, a2]
    show (c.toBitVec.toNat % 256) <<< 0 % 2 ^ 32 ||| (c.toBitVec.toNat / 256) <<< 8 % 2 ^ 32 = _
    rw [Nat.shiftLeft_zero, Nat.mod_eq_of_lt (show c.toBitVec.toNat % 256 < 2 ^ 32 by omega), Nat.mod_eq_of_lt (show (c.toBitVec.toNat / 256) <<< 8 < 2 ^ 32 by rw [Nat.shiftLeft_eq]; omega), Nat.or_comm, ← Nat.shiftLeft_add_eq_or_of_lt (by omega), Nat.shiftLeft_eq]
    omega
  show BitVec.toNat (((((lo8 c &&& 255) <<< (0 : Int32)) ||| ((hi8 c &&& 255) <<< (8 : Int32))).toBitVec.setWidth 16).setWidth 32) = _
  rw [BitVec.toNat_setWidth, BitVec.toNat_setWidth, g]
  omega
end StrChars
namespace StrChars
open Jvm Sem ClassFile Op Lib Jvm.Stand Jvm.Free.XT Jvm.Free.ALB Jvm.Free.JM Jvm.Free
open Jvm.Lib.Cold (StaticIs)
/-- the array's cell V codes the n chars f 0 .. f (n - 1) by the coder cd, as the JDK does: coder 1 just where some char is above 255 -/
def Cod (cd : Int32) (n : Nat) (f : Nat → Int32) (V : Cell) : Prop := (cd = 0 ∧ V.slots.size = n ∧ ∀ j, j < n → V.slots[j]? = some (.int (lo8 (f j))) ∧ ¬ 255 < f j) ∨ (cd = 1 ∧ V.slots.size = 2 * n ∧ (∀ j, j < n → V.slots[2 * j]? = some (.int (lo8 (f j))) ∧ V.slots[2 * j + 1]? = some (.int (hi8 (f j)))) ∧ ∃ j, j < n ∧ 255 < f j)
/-- **x is a String of the n chars f 0 .. f (n - 1)**, Latin-1 or UTF-16; its array at t has the cell V -/
def Txt (x t : Addr) (V : Cell) (cd : Int32) (n : Nat) (f : Nat → Int32) (U : State) : Prop := Exact "java/lang/String" x U ∧ Has x "java/lang/String" "value" "[B" (.ref t) U ∧ Has x "java/lang/String" "coder" "B" (.int cd) U ∧ XT.Arr .byte t V U ∧ Cod cd n f V ∧ ∀ j, j < n → ¬ f j < 0 ∧ ¬ 65535 < f j
theorem Txt.mv {x t : Addr} {V : Cell} {cd : Int32} {n : Nat} {f : Nat → Int32} {U U' : State} (h : Txt x t V cd n f U) (hal : U.vm.Alike U'.vm) (hh : U'.heap = U.heap) : Txt x t V cd n f U' := ⟨h.1.mv hal hh, h.2.1.mv hal hh, h.2.2.1.mv hal hh, h.2.2.2.1.mv hal hh, h.2.2.2.2⟩
end StrChars
namespace StrChars.Road
open Jvm Sem ClassFile Op Lib Jvm.Stand Jvm.Free Jvm.Free.XT
open Jvm.Lib.Cold (StaticIs)
theorem consq {a : Array Value} {s : State} {c : Jvm.Cond} {L : List Jvm.Cond} (h0 : c.before a s = true) (h : ∀ w ∈ L, w.before a s = true) : ∀ w ∈ c :: L, w.before a s = true := fun w hw => (List.mem_cons.mp hw).elim (fun e => e ▸ h0) (h w)
/-- the bytes of the chars cs, low before high -/
def wideBytes : List Int32 → List Value
  | [] => []
  | c :: cs => .int (lo8 c) :: .int (hi8 c) :: wideBytes cs
theorem wide_lo (d : Value) : ∀ (cs : List Int32) (j : Nat), j < cs.length → (wideBytes cs).getD (2 * j) d = .int (lo8 (cs.getD j 0))
  | [], j, h => absurd h (Nat.not_lt_zero j)
  | c :: cs, 0, _ => rfl
  | c :: cs, j + 1, h => by
    have q := wide_lo d cs j (by simpa using h)
    rw [show 2 * (j + 1) = 2 * j + 1 + 1 from by omega]
    simpa [wideBytes] using q
theorem wide_hi (d : Value) : ∀ (cs : List Int32) (j : Nat), j < cs.length → (wideBytes cs).getD (2 * j + 1) d = .int (hi8 (cs.getD j 0))
  | [], j, h => absurd h (Nat.not_lt_zero j)
  | c :: cs, 0, _ => rfl
  | c :: cs, j + 1, h => by
    have q := wide_hi d cs j (by simpa using h)
    rw [show 2 * (j + 1) + 1 = 2 * j + 1 + 1 + 1 from by omega]
    simpa [wideBytes] using q
theorem low_at (d : Value) (cs : List Int32) (j : Nat) (h : j < cs.length) : (cs.map fun c => Value.int (lo8 c)).getD j d = .int (lo8 (cs.getD j 0)) := by
  simp [List.getD_eq_getElem?_getD, h]
/-- an array of N2 bytes vs codes the chars cs by the coder cd -/
def CodA (cs : List Int32) (cd N2 : Int32) (vs : List Value) : Prop := (cd = 0 ∧ N2 = Int32.ofNat cs.length ∧ vs = (cs.map fun c => Value.int (lo8 c)) ∧ ∀ c ∈ cs, ¬ 255 < c) ∨ (cd = 1 ∧ N2 = Int32.ofNat (2 * cs.length) ∧ vs = wideBytes cs ∧ ∃ c ∈ cs, 255 < c)
theorem CodA.cod {cs : List Int32} {cd N2 : Int32} {vs : List Value} {V : Cell} (h : CodA cs cd N2 vs) (hn : 2 * cs.length < 2 ^ 31) (hs : V.slots.size = N2.toNatClampNeg) (hv : RoadKit.Has V vs (.int 0)) : Cod cd cs.length (fun j => cs.getD j 0) V := by
  rcases h with ⟨rfl, rfl, rfl, h⟩ | ⟨rfl, rfl, rfl, c, hc, hw⟩
  · rw [n32 (by omega)] at hs
    exact Or.inl ⟨rfl, hs, fun j hj => ⟨by rw [hv j (by omega), low_at _ _ _ hj], by
      have e : cs.getD j 0 = cs[j] := by simp [List.getD_eq_getElem?_getD, hj]
      show ¬ 255 < cs.getD j 0
      rw [e]; exact h _ (List.getElem_mem _)⟩⟩
  · rw [n32 (by omega)] at hs
    obtain ⟨j, hj, rfl⟩ := List.getElem_of_mem hc
    exact Or.inr ⟨rfl, hs, fun j hj => ⟨by rw [hv _ (by omega), wide_lo _ _ _ hj], by rw [hv _ (by omega), wide_hi _ _ _ hj]⟩, j, hj, by
      have e : cs.getD j 0 = cs[j] := by simp [List.getD_eq_getElem?_getD, hj]
      show 255 < cs.getD j 0
      rw [e]; exact hw⟩
/-- an object of exactly java/lang/String, its two fields found: as the laws ask it -/
theorem strObj {Z U : State} {a0 : Array Value} {kI : Nat} (wi : (Jvm.Cond.instantiable ST kI).before a0 Z = true) (al : Z.vm.Alike U.vm) {x : Addr} {v0 c0 : Value} (E : RoadKit.Exa Z U.heap x ST) (V : RoadKit.Fld Z U.heap x ST "value" "[B" v0) (C : RoadKit.Fld Z U.heap x ST "coder" "B" c0) :
    ∃ (D : Cell) (fV fC : Field), Blank ST x D U ∧ Found ST "value" "[B" fV U ∧ Found ST "coder" "B" fC U ∧ D.slots[fV.slot]? = some v0 ∧ D.slots[fC.slot]? = some c0 ∧ RoadKit.slotOf Z ST "value" "[B" = fV.slot ∧ RoadKit.slotOf Z ST "coder" "B" = fC.slot := by
  obtain ⟨D, cfV, kV, iV, fV, hD, gV, stV, knV, obV, asV, slV⟩ := V
  obtain ⟨D', cfC, kC, iC, fC, hD', gC, stC, -, -, asC, slC⟩ := C
  cases hD.symm.trans hD'
  obtain ⟨D2, kD, e1, e2, e3, e4, e5⟩ := E
  cases hD.symm.trans e1
  obtain ⟨c2, k2, i1, i2, i3, -⟩ := Cond.instantiable_spec wi
  cases e2.symm.trans i1
  cases e3.symm.trans i2
  obtain ⟨kU, u1, u2⟩ := al.2.2 _ _ e3
  exact ⟨D, fV, fC, ⟨hD, ⟨knV, fun q hq => by rw [hq] at obV; cases obV⟩, by rw [al.findClass]; exact e2, kU, u1, by rw [u2]; exact i3, by rw [u2]; exact e5 i3⟩, ⟨SBG.found_only al ⟨cfV, kV, iV, gV⟩, stV⟩, ⟨SBG.found_only al ⟨cfC, kC, iC, gC⟩, stC⟩, slV, slC, by simp [RoadKit.slotOf, gV], by simp [RoadKit.slotOf, gC]⟩
theorem sta_is {Z U : State} (al : Z.vm.Alike U.vm) {C n d : String} {v : Value} (S : RoadKit.Sta Z U.heap C n d v) : StaticIs U C n d v := by
  obtain ⟨cfS, iS, kS, fS, st, cS, t1, t2, t3, t4, t5, t6, t7⟩ := S
  exact StaticIs.there (s := { Z with heap := U.heap }) ⟨cfS, iS, kS, fS, st, cS, t1, t2, t3, t4, t5, (fun q => by rw [q] at t6; cases t6), t7⟩ al rfl
end StrChars.Road
namespace StrChars
open Jvm Sem ClassFile Op Lib Jvm.Stand Jvm.Free.XT Jvm.Free.ALB Jvm.Free.JM Jvm.Free
open Jvm.Lib.Cold (StaticIs)
/-- what place i of a byte[]'s cell holds -/
def yv (A : Cell) (i : Nat) : Int32 := match A.slots[i]? with | some (.int x) => x | _ => 0
theorem yv_get {a : Addr} {A : Cell} {U : State} (h : XT.Arr .byte a A U) (ht : Typed .byte A) {i : Nat} (hi : i < A.slots.size) : A.slots[i]? = some (.int (yv A i)) := by
  have e := Array.getElem?_eq_getElem hi
  have f := ht i _ e
  unfold yv; rw [e]
  generalize A.slots[i] = v at f
  cases v <;> simp [fits] at f ⊢
/-- the two arrays are equal, place for place -/
def EqC (A B : Cell) : Prop := A.slots.size = B.slots.size ∧ ∀ i, i < A.slots.size → yv A i = yv B i
/-- a boolean that says whether p -/
def Says01 (q : Prop) (r : Option Value) (s u : State) : Prop := ∃ v : Int32, r = some (.int v) ∧ u.heap = s.heap ∧ ((v = 1 ∧ q) ∨ (v = 0 ∧ ¬ q))
theorem Says01.mv {q : Prop} : ∀ r (U U' V V' : State), U'.heap = U.heap → V.vm.Alike V'.vm → V'.heap = V.heap → Says01 q r U V → Says01 q r U' V' :=
  fun r U U' V V' h1 _ h2 ⟨v, a, b, c⟩ => ⟨v, a, by rw [h1, h2]; exact b, c⟩
namespace LEq
def yN : MethodName := ⟨"java/lang/StringLatin1", "equals", "([B[B)Z"⟩
abbrev yB : ByteArray := jdk_43_method_13_code
theorem d0 : decode yB 0 = .ok (.aload_n 0, 1) := by decide +kernel
theorem d1 : decode yB 1 = .ok (.arraylength, 1) := by decide +kernel
theorem d2 : decode yB 2 = .ok (.aload_n 1, 1) := by decide +kernel
theorem d3 : decode yB 3 = .ok (.arraylength, 1) := by decide +kernel
theorem d4 : decode yB 4 = .ok (.if_icmp (.ne) 30, 3) := by decide +kernel
theorem d7 : decode yB 7 = .ok (.iconst 0, 1) := by decide +kernel
theorem d8 : decode yB 8 = .ok (.istore_n 2, 1) := by decide +kernel
theorem d9 : decode yB 9 = .ok (.iload_n 2, 1) := by decide +kernel
theorem d10 : decode yB 10 = .ok (.aload_n 0, 1) := by decide +kernel
theorem d11 : decode yB 11 = .ok (.arraylength, 1) := by decide +kernel
theorem d12 : decode yB 12 = .ok (.if_icmp (.ge) 20, 3) := by decide +kernel
theorem d15 : decode yB 15 = .ok (.aload_n 0, 1) := by decide +kernel
theorem d16 : decode yB 16 = .ok (.iload_n 2, 1) := by decide +kernel
theorem d17 : decode yB 17 = .ok (.baload, 1) := by decide +kernel
theorem d18 : decode yB 18 = .ok (.aload_n 1, 1) := by decide +kernel
theorem d19 : decode yB 19 = .ok (.iload_n 2, 1) := by decide +kernel
theorem d20 : decode yB 20 = .ok (.baload, 1) := by decide +kernel
theorem d21 : decode yB 21 = .ok (.if_icmp (.eq) 5, 3) := by decide +kernel
theorem d24 : decode yB 24 = .ok (.iconst 0, 1) := by decide +kernel
theorem d25 : decode yB 25 = .ok (.ireturn, 1) := by decide +kernel
theorem d26 : decode yB 26 = .ok (.iinc 2 1, 3) := by decide +kernel
theorem d29 : decode yB 29 = .ok (.goto (-20), 3) := by decide +kernel
theorem d32 : decode yB 32 = .ok (.iconst 1, 1) := by decide +kernel
theorem d33 : decode yB 33 = .ok (.ireturn, 1) := by decide +kernel
theorem d34 : decode yB 34 = .ok (.iconst 0, 1) := by decide +kernel
theorem d35 : decode yB 35 = .ok (.ireturn, 1) := by decide +kernel
def site : List Cond := []
def tab : Cond := tabOf yN yB 3 (some .boolean) site
def P (a : Addr) (A : Cell) (b : Addr) (B : Cell) (args : Array Value) (s : State) : Prop := args = #[.ref a, .ref b] ∧ XT.Arr .byte a A s ∧ Typed .byte A ∧ XT.Arr .byte b B s ∧ Typed .byte B
/-- whether two byte[] are equal, place for place -/
theorem law (l : Launch) (a : Addr) (A : Cell) (b : Addr) (B : Cell) : Law l yN 2 2 0 0 yB 3 (some .boolean) site (P a A b B) (Says01 (EqC A B)) [] 0 0 := by
  refine Law.of_walk (plainFor_of_name (by decide +kernel)) (by decide +kernel) (by decide +kernel) (by decide) (fun _ _ h => by rw [h.1]; rfl) (fun _ U U' hal hh h => ⟨h.1, h.2.1.mv hal hh, h.2.2.1, h.2.2.2.1.mv hal hh, h.2.2.2.2⟩) (fun r U U' V V' h1 hal h2 h => Says01.mv r U U' V V' h1 hal h2 h) ?_
  intro p e s m args below meth c s₁ X0 hexec hbytes hml hret hlk hnm hown hh0 W hP
  obtain ⟨rfl, hA, tA, hB, tB⟩ := hP
  have a31 := hA.2.2.2
  have b31 := hB.2.2.2
  have hA0 := hA.mv X0.warmed.alike hh0
  have hB0 := hB.mv X0.warmed.alike hh0
  have c1 : Steps p.tables e below (s₁.setTop (entryFrame m #[.ref a, .ref b] 3)) (s₁.setTop (mkF m 0 #[.val (.ref a), .val (.ref b), .unset] [])) := entry rfl
  have c2 : Steps p.tables e below (s₁.setTop (entryFrame m #[.ref a, .ref b] 3)) (s₁.setTop (mkF m 4 #[.val (.ref a), .val (.ref b), .unset] [.int (Int32.ofNat B.slots.size), .int (Int32.ofNat A.slots.size)])) := c1.trans (by
    refine XS.aloadN X0.here hexec rfl (hb hbytes d0) rfl rfl ?_
    refine X0.alen hexec hA0 rfl rfl (hb hbytes d1) ?_
    refine XS.aloadN X0.here hexec rfl (hb hbytes d2) rfl rfl ?_
    refine X0.alen hexec hB0 rfl rfl (hb hbytes d3) ?_
    exact Steps.refl _)
  by_cases hs : A.slots.size = B.slots.size
  · have c3 : Steps p.tables e below (s₁.setTop (entryFrame m #[.ref a, .ref b] 3)) (s₁.setTop (mkF m 9 #[.val (.ref a), .val (.ref b), .val (.int 0)] [])) := c2.trans (by
      refine XS.icmpNo X0.here hexec rfl (hb hbytes d4) rfl (ii_ne_f (by rw [hs])) ?_
      refine iconstV X0.here hexec rfl 0 (hb hbytes d7) (by decide) ?_
      refine XS.istoreN X0.here hexec rfl (hb hbytes d8) rfl rfl ?_
      exact Steps.refl _)
    have loop : ∀ (r i : Nat), i + r = A.slots.size → (∀ j, j < i → yv A j = yv B j) → Steps p.tables e below (s₁.setTop (entryFrame m #[.ref a, .ref b] 3)) (s₁.setTop (mkF m 9 #[.val (.ref a), .val (.ref b), .val (.int (Int32.ofNat i))] [])) → ∃ (pc : Nat) (Ls : Array Slot) (v : Int32), (pc = 25 ∨ pc = 33) ∧ ((v = 1 ∧ EqC A B) ∨ (v = 0 ∧ ¬ EqC A B)) ∧ Steps p.tables e below (s₁.setTop (entryFrame m #[.ref a, .ref b] 3)) (s₁.setTop (mkF m pc Ls [.int v])) := by
      intro r
      induction r with
      | zero =>
        intro i hi he cl
        exact ⟨33, _, 1, Or.inr rfl, Or.inl ⟨rfl, hs, fun j hj => he j (by omega)⟩, cl.trans (by
          refine XS.iloadN X0.here hexec rfl (hb hbytes d9) rfl ?_
          refine XS.aloadN X0.here hexec rfl (hb hbytes d10) rfl rfl ?_
          refine X0.alen hexec hA0 rfl rfl (hb hbytes d11) ?_
          refine XS.icmpYes X0.here hexec rfl (pc0 := 12) rfl (hb hbytes d12) rfl (ii_ge_t (nlt32 (by omega) (by omega))) (by decide) rfl ?_
          refine iconstV X0.here hexec rfl 1 (hb hbytes d32) (by decide) ?_
          exact Steps.refl _)⟩
      | succ r ih =>
        intro i hi he cl
        have c4 : Steps p.tables e below (s₁.setTop (entryFrame m #[.ref a, .ref b] 3)) (s₁.setTop (mkF m 21 #[.val (.ref a), .val (.ref b), .val (.int (Int32.ofNat i))] [.int (yv B i), .int (yv A i)])) := cl.trans (by
          refine XS.iloadN X0.here hexec rfl (hb hbytes d9) rfl ?_
          refine XS.aloadN X0.here hexec rfl (hb hbytes d10) rfl rfl ?_
          refine X0.alen hexec hA0 rfl rfl (hb hbytes d11) ?_
          refine XS.icmpNo X0.here hexec rfl (hb hbytes d12) rfl (ii_ge_f (lt32 (by omega) (by omega))) ?_
          refine XS.aloadN X0.here hexec rfl (hb hbytes d15) rfl rfl ?_
          refine XS.iloadN X0.here hexec rfl (hb hbytes d16) rfl ?_
          refine X0.aget hexec hA0 rfl (yv_get hA tA (i := i) (by omega)) rfl rfl (hb hbytes d17) ?_
          refine XS.aloadN X0.here hexec rfl (hb hbytes d18) rfl rfl ?_
          refine XS.iloadN X0.here hexec rfl (hb hbytes d19) rfl ?_
          refine X0.aget hexec hB0 rfl (yv_get hB tB (i := i) (by omega)) rfl rfl (hb hbytes d20) ?_
          exact Steps.refl _)
        by_cases hv : yv A i = yv B i
        · have c5 : Steps p.tables e below (s₁.setTop (entryFrame m #[.ref a, .ref b] 3)) (s₁.setTop (mkF m 9 #[.val (.ref a), .val (.ref b), .val (.int (Int32.ofNat i + 1))] [])) := c4.trans (by
            refine XS.icmpYes X0.here hexec rfl (pc0 := 21) rfl (hb hbytes d21) rfl (ii_eq_t hv) (by decide) rfl ?_
            refine iincV X0.here hexec rfl 1 (hb hbytes d26) (by decide) rfl rfl ?_
            refine XS.goto X0.here hexec rfl (pc0 := 29) rfl (hb hbytes d29) (by decide) rfl ?_
            exact Steps.refl _)
          rw [succ32] at c5
          exact ih (i + 1) (by omega) (fun j hj => by
            by_cases e : j = i
            · rw [e]; exact hv
            · exact he j (by omega)) c5
        · exact ⟨25, _, 0, Or.inl rfl, Or.inr ⟨rfl, fun q => hv (q.2 i (by omega))⟩, c4.trans (by
            refine XS.icmpNo X0.here hexec rfl (hb hbytes d21) rfl (ii_eq_f hv) ?_
            refine iconstV X0.here hexec rfl 0 (hb hbytes d24) (by decide) ?_
            exact Steps.refl _)⟩
    obtain ⟨pc, Ls, v, hpc, hv, cz⟩ := loop A.slots.size 0 (by omega) (fun j hj => absurd hj (Nat.not_lt_zero j)) c3
    have nv : narrow .boolean (.int v) = .int v := by rcases hv with ⟨rfl, -⟩ | ⟨rfl, -⟩ <;> rfl
    rcases hpc with rfl | rfl
    · exact ⟨s₁, some (.int v), _, _, _, X0, rfl, rfl, rfl, (fun h => by cases h), ⟨v, rfl, hh0, hv⟩, fun fs hl => cz.trans (X0.ireturnOut hexec hret nv (Or.inr (Or.inl rfl)) (hb hbytes d25) hl)⟩
    · exact ⟨s₁, some (.int v), _, _, _, X0, rfl, rfl, rfl, (fun h => by cases h), ⟨v, rfl, hh0, hv⟩, fun fs hl => cz.trans (X0.ireturnOut hexec hret nv (Or.inr (Or.inl rfl)) (hb hbytes d33) hl)⟩
  · have c3 : Steps p.tables e below (s₁.setTop (entryFrame m #[.ref a, .ref b] 3)) (s₁.setTop (mkF m 35 #[.val (.ref a), .val (.ref b), .unset] [.int 0])) := c2.trans (by
      refine XS.icmpYes X0.here hexec rfl (pc0 := 4) rfl (hb hbytes d4) rfl (ii_ne_t (ne32 a31 b31 hs)) (by decide) rfl ?_
      refine iconstV X0.here hexec rfl 0 (hb hbytes d34) (by decide) ?_
      exact Steps.refl _)
    exact ⟨s₁, some (.int 0), _, _, _, X0, rfl, rfl, rfl, (fun h => by cases h), ⟨0, rfl, hh0, Or.inr ⟨rfl, fun q => hs q.1⟩⟩, fun fs hl => c3.trans (X0.ireturnOut hexec hret rfl (Or.inr (Or.inl rfl)) (hb hbytes d35) hl)⟩
end LEq
theorem Cod.ty {cd : Int32} {n : Nat} {f : Nat → Int32} {V : Cell} (h : Cod cd n f V) : Typed .byte V := fun i v hv => by
  have hi : i < V.slots.size := (Array.getElem?_eq_some_iff.mp hv).1
  rcases h with ⟨-, k1, k2⟩ | ⟨-, k1, k2, -⟩
  · rw [(k2 i (by omega)).1] at hv; cases hv; exact fits_lo8 _
  · rcases Nat.mod_two_eq_zero_or_one i with e | e
    · obtain ⟨j, rfl⟩ : ∃ j, i = 2 * j := ⟨i / 2, by omega⟩
      rw [(k2 j (by omega)).1] at hv; cases hv; exact fits_lo8 _
    · obtain ⟨j, rfl⟩ : ∃ j, i = 2 * j + 1 := ⟨i / 2, by omega⟩
      rw [(k2 j (by omega)).2] at hv; cases hv; exact fits_lo8 _
/-- the same text -/
def SameT (n : Nat) (f : Nat → Int32) (k : Nat) (g : Nat → Int32) : Prop := n = k ∧ ∀ j, j < n → f j = g j
theorem lo8_inj {x y : Int32} (h0 : ¬ x < 0) (h1 : ¬ 255 < x) (k0 : ¬ y < 0) (k1 : ¬ 255 < y) (h : lo8 x = lo8 y) : x = y := by
  rw [← lo8_mask h0 h1, ← lo8_mask k0 k1, h]
/-- arrays coded by one coder are equal just where the texts are -/
theorem Cod.eqv {cd : Int32} {n k : Nat} {f g : Nat → Int32} {V V' : Cell} (h : Cod cd n f V) (h' : Cod cd k g V') (hf : ∀ j, j < n → ¬ f j < 0 ∧ ¬ 65535 < f j) (hg : ∀ j, j < k → ¬ g j < 0 ∧ ¬ 65535 < g j) : EqC V V' ↔ SameT n f k g := by
  have yvv : ∀ {W : Cell} {i : Nat} {x : Int32}, W.slots[i]? = some (.int x) → yv W i = x := fun q => by unfold yv; rw [q]
  rcases h with ⟨rfl, k1, k2⟩ | ⟨rfl, k1, k2, -⟩
  · rcases h' with ⟨-, m1, m2⟩ | ⟨e, -⟩
    · constructor
      · rintro ⟨e1, e2⟩
        refine ⟨by omega, fun j hj => ?_⟩
        have q := e2 j (by omega)
        rw [yvv (k2 j hj).1, yvv (m2 j (by omega)).1] at q
        exact lo8_inj (hf j hj).1 (k2 j hj).2 (hg j (by omega)).1 (m2 j (by omega)).2 q
      · rintro ⟨rfl, e2⟩
        refine ⟨by omega, fun j hj => ?_⟩
        rw [yvv (k2 j (by omega)).1, yvv (m2 j (by omega)).1, e2 j (by omega)]
    · exact absurd e (by decide)
  · rcases h' with ⟨e, -⟩ | ⟨-, m1, m2, -⟩
    · exact absurd e (by decide)
    · constructor
      · rintro ⟨e1, e2⟩
        refine ⟨by omega, fun j hj => ?_⟩
        have q1 := e2 (2 * j) (by omega)
        have q2 := e2 (2 * j + 1) (by omega)
        rw [yvv (k2 j hj).1, yvv (m2 j (by omega)).1] at q1
        rw [yvv (k2 j hj).2, yvv (m2 j (by omega)).2] at q2
        rw [← pair_says (hf j hj).1 (hf j hj).2, ← pair_says (hg j (by omega)).1 (hg j (by omega)).2, q1, q2]
      · rintro ⟨rfl, e2⟩
        refine ⟨by omega, fun i hi => ?_⟩
        rcases Nat.mod_two_eq_zero_or_one i with e | e
        · obtain ⟨j, rfl⟩ : ∃ j, i = 2 * j := ⟨i / 2, by omega⟩
          rw [yvv (k2 j (by omega)).1, yvv (m2 j (by omega)).1, e2 j (by omega)]
        · obtain ⟨j, rfl⟩ : ∃ j, i = 2 * j + 1 := ⟨i / 2, by omega⟩
          rw [yvv (k2 j (by omega)).2, yvv (m2 j (by omega)).2, e2 j (by omega)]
/-- two codings differ: so do the texts -/
theorem Cod.dif {cd cd' : Int32} {n k : Nat} {f g : Nat → Int32} {V V' : Cell} (h : Cod cd n f V) (h' : Cod cd' k g V') (hne : ¬ cd = cd') : ¬ SameT n f k g := by
  rintro ⟨rfl, e⟩
  rcases h with ⟨rfl, -, k2⟩ | ⟨rfl, -, -, j, hj, hw⟩
  · rcases h' with ⟨rfl, -⟩ | ⟨-, -, -, j, hj, hw⟩
    · exact hne rfl
    · exact (k2 j hj).2 (by rw [e j hj]; exact hw)
  · rcases h' with ⟨-, -, m2⟩ | ⟨rfl, -⟩
    · exact (m2 j hj).2 (by rw [← e j hj]; exact hw)
    · exact hne rfl
/-- an object of exactly C is an instance of C -/
theorem cinst {p : Program} {l : Launch} {e : Env} {R : Room} {s : State} {m : MethodId} {args : Array Value} {below : List Frame} {meth : Method} {c : Code} {T : State} {locs : List Loc} {cells slots : Nat} (X : Stand p l e R s m args below meth c T locs cells slots) (hexec : p.tables.exec = Jvm.exec) {own C : String} {index : Nat} (hown : s.vm.findClass own = some m.cls) (hlink : (Cond.classLink own index C).before args s = true) {a : Addr} (hE : Exact C a T)
    {g : JFrame} (hg : g.method = m) {rest : List Value} (hstack : g.stack = .ref a :: rest) (hdg : decode c.code g.pc = .ok (.instanceof index, 3)) :
    ∃ T', Stand p l e R s m args below meth c T' locs cells slots ∧ T'.heap = T.heap ∧ ∀ target, Steps p.tables e below (T'.setTop { g with pc := g.pc + 3, stack := .int 1 :: rest }) target → Steps p.tables e below (T.setTop g) target := by
  obtain ⟨cB, h1, D, h2, h3, h4⟩ := hE
  have h1' : s.vm.findClass C = some cB := by rw [← X.warmed.alike.findClass]; exact h1
  obtain ⟨vm', X', st⟩ := X.instanceofYes hexec hown hlink h2 h4 h1' (by rw [h3]; exact Jvm.Free.SB.assignable_self _ _) hg hstack hdg
  exact ⟨_, X', rfl, st⟩
theorem cself {p : Program} {l : Launch} {e : Env} {R : Room} {s : State} {m : MethodId} {args : Array Value} {below : List Frame} {meth : Method} {c : Code} {T : State} {locs : List Loc} {cells slots : Nat} (X : Stand p l e R s m args below meth c T locs cells slots) (hexec : p.tables.exec = Jvm.exec) {own C : String} {index : Nat} (hown : s.vm.findClass own = some m.cls) (hlink : (Cond.classLink own index C).before args s = true) {a : Addr} (hE : Exact C a T)
    {g : JFrame} (hg : g.method = m) {rest : List Value} (hstack : g.stack = .ref a :: rest) (hdg : decode c.code g.pc = .ok (.checkcast index, 3)) :
    ∃ T', Stand p l e R s m args below meth c T' locs cells slots ∧ T'.heap = T.heap ∧ ∀ target, Steps p.tables e below (T'.setTop { g with pc := g.pc + 3, stack := .ref a :: rest }) target → Steps p.tables e below (T.setTop g) target := by
  obtain ⟨cB, h1, D, h2, h3, h4⟩ := hE
  have h1' : s.vm.findClass C = some cB := by rw [← X.warmed.alike.findClass]; exact h1
  obtain ⟨vm', X', st⟩ := X.checkcastYes hexec hown hlink h2 h4 h1' (by rw [h3]; exact Jvm.Free.SB.assignable_self _ _) hg hstack hdg
  exact ⟨_, X', rfl, fun t h => st t (by rw [← hstack] at h; exact h)⟩
namespace SEq
def yN : MethodName := ⟨"java/lang/String", "equals", "(Ljava/lang/Object;)Z"⟩
abbrev yB : ByteArray := jdk_42_method_66_code
theorem d0 : decode yB 0 = .ok (.aload_n 0, 1) := by decide +kernel
theorem d1 : decode yB 1 = .ok (.aload_n 1, 1) := by decide +kernel
theorem d2 : decode yB 2 = .ok (.if_acmp (.ne) 5, 3) := by decide +kernel
theorem d5 : decode yB 5 = .ok (.iconst 1, 1) := by decide +kernel
theorem d6 : decode yB 6 = .ok (.ireturn, 1) := by decide +kernel
theorem d7 : decode yB 7 = .ok (.aload_n 1, 1) := by decide +kernel
theorem d8 : decode yB 8 = .ok (.instanceof 10, 3) := by decide +kernel
theorem d11 : decode yB 11 = .ok (.ifCond (.eq) 43, 3) := by decide +kernel
theorem d14 : decode yB 14 = .ok (.aload_n 1, 1) := by decide +kernel
theorem d15 : decode yB 15 = .ok (.checkcast 10, 3) := by decide +kernel
theorem d18 : decode yB 18 = .ok (.astore_n 2, 1) := by decide +kernel
theorem d19 : decode yB 19 = .ok (.getstatic 38, 3) := by decide +kernel
theorem d22 : decode yB 22 = .ok (.ifCond (.eq) 14, 3) := by decide +kernel
theorem d25 : decode yB 25 = .ok (.aload_n 0, 1) := by decide +kernel
theorem d26 : decode yB 26 = .ok (.getfield 15, 3) := by decide +kernel
theorem d29 : decode yB 29 = .ok (.aload_n 2, 1) := by decide +kernel
theorem d30 : decode yB 30 = .ok (.getfield 15, 3) := by decide +kernel
theorem d33 : decode yB 33 = .ok (.if_icmp (.ne) 21, 3) := by decide +kernel
theorem d36 : decode yB 36 = .ok (.aload_n 0, 1) := by decide +kernel
theorem d37 : decode yB 37 = .ok (.getfield 9, 3) := by decide +kernel
theorem d40 : decode yB 40 = .ok (.aload_n 2, 1) := by decide +kernel
theorem d41 : decode yB 41 = .ok (.getfield 9, 3) := by decide +kernel
theorem d44 : decode yB 44 = .ok (.invokestatic 541, 3) := by decide +kernel
theorem d47 : decode yB 47 = .ok (.ifCond (.eq) 7, 3) := by decide +kernel
theorem d50 : decode yB 50 = .ok (.iconst 1, 1) := by decide +kernel
theorem d51 : decode yB 51 = .ok (.goto 4, 3) := by decide +kernel
theorem d54 : decode yB 54 = .ok (.iconst 0, 1) := by decide +kernel
theorem d55 : decode yB 55 = .ok (.ireturn, 1) := by decide +kernel
def site : List Cond := [.classLink "java/lang/String" 10 "java/lang/String", .fieldLink "java/lang/String" 38 "java/lang/String" "COMPACT_STRINGS" "Z", .fieldLink "java/lang/String" 15 "java/lang/String" "coder" "B", .fieldLink "java/lang/String" 9 "java/lang/String" "value" "[B", LEq.tab] ++ staticW "java/lang/String" 541 LEq.yN
def tab : Cond := tabOf yN yB 3 (some .boolean) site
def P (x t : Addr) (V : Cell) (cd : Int32) (n : Nat) (f : Nat → Int32) (y t' : Addr) (V' : Cell) (cd' : Int32) (k : Nat) (g : Nat → Int32) (z : Int32) (args : Array Value) (s : State) : Prop := args = #[.ref x, .ref y] ∧ Txt x t V cd n f s ∧ Txt y t' V' cd' k g s ∧ StaticIs s "java/lang/String" "COMPACT_STRINGS" "Z" (.int z) ∧ ¬ z = 0
/-- equals(Object) of two Strings: whether the texts are the same -/
theorem law (l : Launch) (x t : Addr) (V : Cell) (cd : Int32) (n : Nat) (f : Nat → Int32) (y t' : Addr) (V' : Cell) (cd' : Int32) (k : Nat) (g : Nat → Int32) (z : Int32) : Law l yN 2 1 1 14 yB 3 (some .boolean) site (P x t V cd n f y t' V' cd' k g z) (Says01 (SameT n f k g)) [] 0 0 := by
  refine Law.of_walk (plainFor_of_name (by decide +kernel)) (by decide +kernel) (by decide +kernel) (by decide) (fun _ _ h => by rw [h.1]; rfl) (fun _ U U' hal hh h => ⟨h.1, h.2.1.mv hal hh, h.2.2.1.mv hal hh, h.2.2.2.1.there hal hh, h.2.2.2.2⟩) (fun r U U' V V' h1 hal h2 h => Says01.mv r U U' V V' h1 hal h2 h) ?_
  intro p e s m args below meth c s₁ X0 hexec hbytes hml hret hlk hnm hown hh0 W hP
  obtain ⟨rfl, hx, hy, s1, hz⟩ := hP
  have c1 : Steps p.tables e below (s₁.setTop (entryFrame m #[.ref x, .ref y] 3)) (s₁.setTop (mkF m 2 #[.val (.ref x), .val (.ref y), .unset] [.ref y, .ref x])) := Steps.trans (entry rfl) (by
    show Steps p.tables e below (s₁.setTop (mkF m 0 #[.val (.ref x), .val (.ref y), .unset] [])) _
    refine XS.aloadN X0.here hexec rfl (hb hbytes d0) rfl rfl ?_
    refine XS.aloadN X0.here hexec rfl (hb hbytes d1) rfl rfl ?_
    exact Steps.refl _)
  by_cases hxy : x = y
  · have c2 : Steps p.tables e below (s₁.setTop (entryFrame m #[.ref x, .ref y] 3)) (s₁.setTop (mkF m 6 #[.val (.ref x), .val (.ref y), .unset] [.int 1])) := c1.trans (by
      refine acmpNo X0.here hexec rfl (hb hbytes d2) rfl rfl rfl (by simp [acmp, hxy]) ?_
      refine iconstV X0.here hexec rfl 1 (hb hbytes d5) (by decide) ?_
      exact Steps.refl _)
    subst hxy
    have ec : cd = cd' := by
      obtain ⟨D, fd, a1, a2, a3⟩ := hx.2.2.1
      obtain ⟨D', fd', b1, b2, b3⟩ := hy.2.2.1
      cases a1.symm.trans b1
      obtain ⟨q1, q2, q3, q4⟩ := a2.1
      obtain ⟨r1, r2, r3, r4⟩ := b2.1
      cases q4.symm.trans r4
      cases a3.symm.trans b3; rfl
    have et : t = t' := by
      obtain ⟨D, fd, a1, a2, a3⟩ := hx.2.1
      obtain ⟨D', fd', b1, b2, b3⟩ := hy.2.1
      cases a1.symm.trans b1
      obtain ⟨q1, q2, q3, q4⟩ := a2.1
      obtain ⟨r1, r2, r3, r4⟩ := b2.1
      cases q4.symm.trans r4
      cases a3.symm.trans b3; rfl
    subst ec et
    have ev : V = V' := by cases hx.2.2.2.1.1.symm.trans hy.2.2.2.1.1; rfl
    subst ev
    have hs : SameT n f k g := (Cod.eqv hx.2.2.2.2.1 hy.2.2.2.2.1 hx.2.2.2.2.2 hy.2.2.2.2.2).mp ⟨rfl, fun _ _ => rfl⟩
    exact ⟨s₁, some (.int 1), _, _, _, X0, rfl, rfl, rfl, (fun h => by cases h), ⟨1, rfl, hh0, Or.inl ⟨rfl, hs⟩⟩, fun fs hl => c2.trans (X0.ireturnOut hexec hret rfl (Or.inr (Or.inl rfl)) (hb hbytes d6) hl)⟩
  · have c2 : Steps p.tables e below (s₁.setTop (entryFrame m #[.ref x, .ref y] 3)) (s₁.setTop (mkF m 8 #[.val (.ref x), .val (.ref y), .unset] [.ref y])) := c1.trans (by
      refine acmpYes X0.here hexec rfl (pc0 := 2) rfl (hb hbytes d2) rfl rfl rfl (by simp [acmp, hxy]) (by decide) rfl ?_
      refine XS.aloadN X0.here hexec rfl (hb hbytes d7) rfl rfl ?_
      exact Steps.refl _)
    obtain ⟨T3, X3, q3, st3⟩ := cinst X0 hexec hown (wk W (.classLink "java/lang/String" 10 "java/lang/String")) (hy.mv X0.warmed.alike hh0).1 (g := (mkF m 8 #[.val (.ref x), .val (.ref y), .unset] [.ref y])) rfl (rest := []) rfl (hb hbytes d8)
    have hh3 := q3.trans hh0
    have c4 : Steps p.tables e below (s₁.setTop (entryFrame m #[.ref x, .ref y] 3)) (T3.setTop (mkF m 15 #[.val (.ref x), .val (.ref y), .unset] [.ref y])) := (c2.trans (st3 _ (Steps.refl _))).trans (by
      refine XS.ifNo X3.here hexec rfl (hb hbytes d11) rfl (i0_eq_f (by decide)) ?_
      refine XS.aloadN X3.here hexec rfl (hb hbytes d14) rfl rfl ?_
      exact Steps.refl _)
    obtain ⟨T5, X5, q5, st5⟩ := cself X3 hexec hown (wk W (.classLink "java/lang/String" 10 "java/lang/String")) (hy.mv X3.warmed.alike hh3).1 (g := (mkF m 15 #[.val (.ref x), .val (.ref y), .unset] [.ref y])) rfl (rest := []) rfl (hb hbytes d15)
    have hh5 := q5.trans hh3
    have c6 : Steps p.tables e below (s₁.setTop (entryFrame m #[.ref x, .ref y] 3)) (T5.setTop (mkF m 19 #[.val (.ref x), .val (.ref y), .val (.ref y)] [])) := (c4.trans (st5 _ (Steps.refl _))).trans (by
      refine XS.astoreN X5.here hexec rfl (hb hbytes d18) rfl rfl rfl ?_
      exact Steps.refl _)
    obtain ⟨T7, X7, q7, st7⟩ := X5.sget hexec hown (wk W (.fieldLink "java/lang/String" 38 "java/lang/String" "COMPACT_STRINGS" "Z")) s1 (fun _ _ h => by rw [hh5]; exact h) (g := (mkF m 19 #[.val (.ref x), .val (.ref y), .val (.ref y)] [])) rfl (hb hbytes d19)
    have hh7 := q7.trans hh5
    have c8 : Steps p.tables e below (s₁.setTop (entryFrame m #[.ref x, .ref y] 3)) (T7.setTop (mkF m 26 #[.val (.ref x), .val (.ref y), .val (.ref y)] [.ref x])) := (c6.trans (st7 _ (Steps.refl _))).trans (by
      refine XS.ifNo X7.here hexec rfl (hb hbytes d22) rfl (i0_eq_f hz) ?_
      refine XS.aloadN X7.here hexec rfl (hb hbytes d25) rfl rfl ?_
      exact Steps.refl _)
    obtain ⟨T9, X9, q9, st9⟩ := X7.hget hexec hown (wk W (.fieldLink "java/lang/String" 15 "java/lang/String" "coder" "B")) (hx.mv X7.warmed.alike hh7).2.2.1 (g := (mkF m 26 #[.val (.ref x), .val (.ref y), .val (.ref y)] [.ref x])) rfl (rest := []) rfl (hb hbytes d26)
    have hh9 := q9.trans hh7
    have c10 : Steps p.tables e below (s₁.setTop (entryFrame m #[.ref x, .ref y] 3)) (T9.setTop (mkF m 30 #[.val (.ref x), .val (.ref y), .val (.ref y)] [.ref y, .int cd])) := (c8.trans (st9 _ (Steps.refl _))).trans (by
      refine XS.aloadN X9.here hexec rfl (hb hbytes d29) rfl rfl ?_
      exact Steps.refl _)
    obtain ⟨T11, X11, q11, st11⟩ := X9.hget hexec hown (wk W (.fieldLink "java/lang/String" 15 "java/lang/String" "coder" "B")) (hy.mv X9.warmed.alike hh9).2.2.1 (g := (mkF m 30 #[.val (.ref x), .val (.ref y), .val (.ref y)] [.ref y, .int cd])) rfl (rest := [.int cd]) rfl (hb hbytes d30)
    have hh11 := q11.trans hh9
    have c12 : Steps p.tables e below (s₁.setTop (entryFrame m #[.ref x, .ref y] 3)) (T11.setTop (mkF m 33 #[.val (.ref x), .val (.ref y), .val (.ref y)] [.int cd', .int cd])) := c10.trans (st11 _ (Steps.refl _))
    by_cases hcd : cd = cd'
    · subst hcd
      have c13 : Steps p.tables e below (s₁.setTop (entryFrame m #[.ref x, .ref y] 3)) (T11.setTop (mkF m 37 #[.val (.ref x), .val (.ref y), .val (.ref y)] [.ref x])) := c12.trans (by
        refine XS.icmpNo X11.here hexec rfl (hb hbytes d33) rfl (ii_ne_f rfl) ?_
        refine XS.aloadN X11.here hexec rfl (hb hbytes d36) rfl rfl ?_
        exact Steps.refl _)
      obtain ⟨T14, X14, q14, st14⟩ := X11.hget hexec hown (wk W (.fieldLink "java/lang/String" 9 "java/lang/String" "value" "[B")) (hx.mv X11.warmed.alike hh11).2.1 (g := (mkF m 37 #[.val (.ref x), .val (.ref y), .val (.ref y)] [.ref x])) rfl (rest := []) rfl (hb hbytes d37)
      have hh14 := q14.trans hh11
      have c15 : Steps p.tables e below (s₁.setTop (entryFrame m #[.ref x, .ref y] 3)) (T14.setTop (mkF m 41 #[.val (.ref x), .val (.ref y), .val (.ref y)] [.ref y, .ref t])) := (c13.trans (st14 _ (Steps.refl _))).trans (by
        refine XS.aloadN X14.here hexec rfl (hb hbytes d40) rfl rfl ?_
        exact Steps.refl _)
      obtain ⟨T16, X16, q16, st16⟩ := X14.hget hexec hown (wk W (.fieldLink "java/lang/String" 9 "java/lang/String" "value" "[B")) (hy.mv X14.warmed.alike hh14).2.1 (g := (mkF m 41 #[.val (.ref x), .val (.ref y), .val (.ref y)] [.ref y, .ref t])) rfl (rest := [.ref t]) rfl (hb hbytes d41)
      have hh16 := q16.trans hh14
      have c17 : Steps p.tables e below (s₁.setTop (entryFrame m #[.ref x, .ref y] 3)) (T16.setTop (mkF m 44 #[.val (.ref x), .val (.ref y), .val (.ref y)] [.ref t', .ref t])) := c15.trans (st16 _ (Steps.refl _))
      obtain ⟨v18, T18, X18, E18, g18⟩ := X16.callS hexec (LEq.law l t V t' V') hown (wks W (staticW "java/lang/String" 541 LEq.yN)) (wk W LEq.tab) (W := 0) (Nat.le_of_ble_eq_true rfl) (Nat.le_of_ble_eq_true rfl) (Nat.le_refl _) (Nat.le_refl _) (g := (mkF m 44 #[.val (.ref x), .val (.ref y), .val (.ref y)] [.ref t', .ref t])) rfl (by rw [hml]; rfl) c17 (argsL := [.ref t, .ref t']) (rest := []) rfl rfl (by show 2 * 0 + 0 ≤ _; decide) (hb hbytes d44) (⟨rfl, hx.2.2.2.1.mv X16.warmed.alike hh16, hx.2.2.2.2.1.ty, hy.2.2.2.1.mv X16.warmed.alike hh16, hy.2.2.2.2.1.ty⟩)
      obtain ⟨v, rfl, q18, hv⟩ := E18
      have iff := Cod.eqv hx.2.2.2.2.1 hy.2.2.2.2.1 hx.2.2.2.2.2 hy.2.2.2.2.2
      rcases hv with ⟨rfl, he⟩ | ⟨rfl, he⟩
      · have c19 : Steps p.tables e below (s₁.setTop (entryFrame m #[.ref x, .ref y] 3)) (T18.setTop (mkF m 55 #[.val (.ref x), .val (.ref y), .val (.ref y)] [.int 1])) := Steps.trans g18 (by
          refine XS.ifNo X18.here hexec rfl (hb hbytes d47) rfl (i0_eq_f (by decide)) ?_
          refine iconstV X18.here hexec rfl 1 (hb hbytes d50) (by decide) ?_
          refine XS.goto X18.here hexec rfl (pc0 := 51) rfl (hb hbytes d51) (by decide) rfl ?_
          exact Steps.refl _)
        exact ⟨T18, some (.int 1), _, _, _, X18, rfl, rfl, rfl, (fun h => by cases h), ⟨1, rfl, q18.trans hh16, Or.inl ⟨rfl, iff.mp he⟩⟩, fun fs hl => c19.trans (X18.ireturnOut hexec hret rfl (Or.inr (Or.inl rfl)) (hb hbytes d55) hl)⟩
      · have c19 : Steps p.tables e below (s₁.setTop (entryFrame m #[.ref x, .ref y] 3)) (T18.setTop (mkF m 55 #[.val (.ref x), .val (.ref y), .val (.ref y)] [.int 0])) := Steps.trans g18 (by
          refine XS.ifYes X18.here hexec rfl (pc0 := 47) rfl (hb hbytes d47) rfl (i0_eq_t rfl) (by decide) rfl ?_
          refine iconstV X18.here hexec rfl 0 (hb hbytes d54) (by decide) ?_
          exact Steps.refl _)
        exact ⟨T18, some (.int 0), _, _, _, X18, rfl, rfl, rfl, (fun h => by cases h), ⟨0, rfl, q18.trans hh16, Or.inr ⟨rfl, fun q => he (iff.mpr q)⟩⟩, fun fs hl => c19.trans (X18.ireturnOut hexec hret rfl (Or.inr (Or.inl rfl)) (hb hbytes d55) hl)⟩
    · have c13 : Steps p.tables e below (s₁.setTop (entryFrame m #[.ref x, .ref y] 3)) (T11.setTop (mkF m 55 #[.val (.ref x), .val (.ref y), .val (.ref y)] [.int 0])) := c12.trans (by
        refine XS.icmpYes X11.here hexec rfl (pc0 := 33) rfl (hb hbytes d33) rfl (ii_ne_t hcd) (by decide) rfl ?_
        refine iconstV X11.here hexec rfl 0 (hb hbytes d54) (by decide) ?_
        exact Steps.refl _)
      exact ⟨T11, some (.int 0), _, _, _, X11, rfl, rfl, rfl, (fun h => by cases h), ⟨0, rfl, hh11, Or.inr ⟨rfl, Cod.dif hx.2.2.2.2.1 hy.2.2.2.2.1 hcd⟩⟩, fun fs hl => c13.trans (X11.ireturnOut hexec hret rfl (Or.inr (Or.inl rfl)) (hb hbytes d55) hl)⟩
theorem pays {l : Launch} {R : Room} {p : Program} {e : Env} {below : List Frame} {s : State} {sargs : Array Value} {len W : Nat} (x t : Addr) (V : Cell) (cd : Int32) (n : Nat) (f : Nat → Int32) (y t' : Addr) (V' : Cell) (cd' : Int32) (k : Nat) (g : Nat → Int32) (z : Int32) (htab : tab.before sargs s = true) (hfr : 2 ≤ R.frames) (hlo : W + 28 ≤ R.locals) :
    Back l R p e below s sargs yN len W (fun A₁ a₁ => A₁.cells + 0 ≤ R.cells ∧ A₁.slots + 0 ≤ R.slots ∧ P x t V cd n f y t' V' cd' k g z a₁ A₁.U) (fun A₁ _ v₁ B₁ => Says01 (SameT n f k g) v₁ A₁.U B₁.U ∧ B₁.locs = A₁.locs ++ [] ∧ B₁.cells = A₁.cells + 0 ∧ B₁.slots = A₁.slots + 0) :=
  (law l x t V cd n f y t' V' cd' k g z).pays htab hfr (by omega)
end SEq
end StrChars
namespace StrChars.Road
open Jvm Sem ClassFile Op Lib Jvm.Stand Jvm.Free Jvm.Free.XT
open Jvm.Lib.Cold (StaticIs)
/-- the words of String.equals(Object) -/
abbrev wordsEq : List Jvm.Cond := [.code SEq.yN SEq.yB 3 (some .boolean), .initialized ST, .classLink ST 10 ST, .fieldLink ST 38 ST "COMPACT_STRINGS" "Z", .fieldLink ST 15 ST "coder" "B", .fieldLink ST 9 ST "value" "[B", .methodLink ST 541 LEq.yN, .static LEq.yN, .code LEq.yN LEq.yB 3 (some .boolean), .initialized "java/lang/StringLatin1"]
theorem tabEq_of {a : Array Value} {s : State} (h : ∀ w ∈ wordsEq, w.before a s = true) : SEq.tab.before a s = true := by
  have hl : LEq.tab.before a s = true := unparts (wk h (.code LEq.yN LEq.yB 3 (some .boolean))) (wks h (.initialized LEq.yN.cls :: LEq.site))
  have q := consq hl h
  exact unparts (wk q (.code SEq.yN SEq.yB 3 (some .boolean))) (wks q (.initialized SEq.yN.cls :: SEq.site))
theorem movedEq {Z s : State} {a0 args : Array Value} (hZ : Z.Warmed39 s.vm) (hw : ∀ d ∈ wordsEq, d.before a0 Z = true) : ∀ d ∈ wordsEq, d.before args s = true := fun d hd => by
  have t : ∀ d ∈ wordsEq, (d.onTables && d.keepsFace) = true := by decide +kernel
  exact RoadKit.mv hZ (hw d hd) (t d hd)
/-- the road's facts of a String, as the laws ask it -/
theorem txt_of {Z U : State} {a0 : Array Value} {kI : Nat} (wi : (Jvm.Cond.instantiable ST kI).before a0 Z = true) (al : Z.vm.Alike U.vm) {x t : Addr} {kb : ClassId} {cs : List Int32} {cd N2 : Int32} {vs : List Value} (E : RoadKit.Exa Z U.heap x ST) (V : RoadKit.Fld Z U.heap x ST "value" "[B" (.ref t)) (C : RoadKit.Fld Z U.heap x ST "coder" "B" (.int cd)) (K : RoadKit.Arv Z U.heap t kb .byte N2 vs (.int 0)) (hc : CodA cs cd N2 vs) (hb : ∀ c ∈ cs, ¬ c < 0 ∧ ¬ (65535 : Int32) < c) (l2 : cs.length ≤ 4000) :
    ∃ A, Txt x t A cd cs.length (fun j => cs.getD j 0) U := by
  obtain ⟨A, K1, K2, K3, K4, K5, K6⟩ := K
  have hcod := hc.cod (by omega) K3 K5
  obtain ⟨D, fV, fC, hB, F1, F2, g1, g2, -, -⟩ := strObj wi al E V C
  exact ⟨A, ⟨_, hB.2.2.1, D, hB.1, rfl, by cases q : D.vm <;> first | rfl | exact absurd q (hB.2.1.2 _)⟩, Has.of hB F1 g1, Has.of hB F2 g2, ⟨K1.1, State.isArrayOf_alike al K1.2.1, K1.2.2, by rcases hcod with ⟨-, q, -⟩ | ⟨-, q, -⟩ <;> omega⟩, hcod, fun j hj => by
    have e : cs.getD j 0 = cs[j] := by simp [List.getD_eq_getElem?_getD, hj]
    show ¬ cs.getD j 0 < 0 ∧ ¬ 65535 < cs.getD j 0
    rw [e]; exact hb _ (List.getElem_mem _)⟩
theorem same_list (cs ds : List Int32) : SameT cs.length (fun j => cs.getD j 0) ds.length (fun j => ds.getD j 0) ↔ cs = ds := by
  constructor
  · rintro ⟨e, q⟩
    refine List.ext_getElem e fun j h1 h2 => ?_
    have := q j h1
    simpa [List.getD_eq_getElem?_getD, h1, h2] using this
  · rintro rfl
    exact ⟨rfl, fun _ _ => rfl⟩
/-- **equals(Object) OF TWO SUCH STRINGS**: 1 just where the chars are the same -/
theorem eqW {p : Program} {l : Launch} {e : Env} {R : Room} {s : State} {args : Array Value} {below : List Frame} {len W : Nat} {Z : State} {a0 : Array Value} {h : Heap} (hZ : Z.Warmed39 s.vm) (hw : ∀ d ∈ wordsEq, d.before a0 Z = true) {kI : Nat} (wi : (Jvm.Cond.instantiable ST kI).before a0 Z = true)
    {x t : Addr} {kb : ClassId} {cs : List Int32} {cd N2 : Int32} {vs : List Value} (E : RoadKit.Exa Z h x ST) (V : RoadKit.Fld Z h x ST "value" "[B" (.ref t)) (C : RoadKit.Fld Z h x ST "coder" "B" (.int cd)) (K : RoadKit.Arv Z h t kb .byte N2 vs (.int 0)) (hc : CodA cs cd N2 vs) (hb : ∀ c ∈ cs, ¬ c < 0 ∧ ¬ (65535 : Int32) < c) (l2 : cs.length ≤ 4000)
    {y t' : Addr} {kb' : ClassId} {ds : List Int32} {cd' N2' : Int32} {vs' : List Value} (E' : RoadKit.Exa Z h y ST) (V' : RoadKit.Fld Z h y ST "value" "[B" (.ref t')) (C' : RoadKit.Fld Z h y ST "coder" "B" (.int cd')) (K' : RoadKit.Arv Z h t' kb' .byte N2' vs' (.int 0)) (hc' : CodA ds cd' N2' vs') (hb' : ∀ c ∈ ds, ¬ c < 0 ∧ ¬ (65535 : Int32) < c) (l2' : ds.length ≤ 4000)
    {z : Int32} (S : RoadKit.Sta Z h ST "COMPACT_STRINGS" "Z" (.int z)) (hz : ¬ z = 0) (hfr : 2 ≤ R.frames) (hlo : W + 28 ≤ R.locals) :
    Back l R p e below s args (⟨"java/lang/String", "equals", "(Ljava/lang/Object;)Z"⟩ : MethodName) len W (fun P a => a = #[.ref x, .ref y] ∧ P.U.heap = h ∧ P.cells + 0 ≤ R.cells ∧ P.slots + 0 ≤ R.slots)
      (fun P _ v B => ∃ L, (((v = some (.int 1) ∧ cs = ds) ∨ (v = some (.int 0) ∧ ¬ cs = ds)) ∧ L = [] ∧ B.U.heap = h) ∧ B.locs = P.locs ++ L ∧ B.cells = P.cells + 0 ∧ B.slots = P.slots + 0) := by
  intro m meth c P g ig mk a X hg hsize hdg hW hn hp'
  obtain ⟨rfl, rfl, r1, r2⟩ := hp'
  have al : Z.vm.Alike P.U.vm := hZ.alike.trans X.warmed.alike
  obtain ⟨A, hx⟩ := txt_of wi al E V C K hc hb l2
  obtain ⟨A', hy⟩ := txt_of wi al E' V' C' K' hc' hb' l2'
  obtain ⟨v, B, X', ⟨⟨w, hv, hh, hq⟩, hl, hk, hs⟩, st⟩ := SEq.pays x t A cd cs.length (fun j => cs.getD j 0) y t' A' cd' ds.length (fun j => ds.getD j 0) z (tabEq_of (movedEq hZ hw)) hfr hlo m meth c P g ig mk _ X hg hsize hdg hW hn ⟨r1, r2, rfl, hx, hy, sta_is al S, hz⟩
  refine ⟨v, B, X', ⟨[], ⟨?_, rfl, hh⟩, hl, hk, hs⟩, st⟩
  rcases hq with ⟨rfl, q⟩ | ⟨rfl, q⟩
  · exact Or.inl ⟨hv, (same_list cs ds).mp q⟩
  · exact Or.inr ⟨hv, fun e => q ((same_list cs ds).mpr e)⟩
end StrChars.Road
namespace StrChars.Road
open Jvm Sem ClassFile Op Lib Jvm.Stand Jvm.Free Jvm.Free.XT
open Jvm.Lib.Cold (StaticIs)
/-- what backV says of its String, as the contracts of this text ask it: cs's low bytes, coder 0 -/
theorem codOf {cs : List Int32} {n : Nat} (hn : cs.length = n) (hb : ∀ c ∈ cs, ¬ 255 < c) : CodA cs 0 (Int32.ofNat n) ((cs.map lo8).map Value.int) := Or.inl ⟨rfl, by rw [hn], by simp [List.map_map, Function.comp_def], hb⟩
end StrChars.Road
end Jvm.Pilot.@@N@@
namespace Jvm.Pilot.@@N@@
open Jvm Jvm.ClassFile Sem Op Lib Jvm.Free Jvm.Stand Jvm.LawKit Jvm.RoadKit Bundle Jvm.Pilot.@@N@@.Jvm.D

def own_b (P : Prop) [Decidable P] : Int32 := if P then 1 else 0
theorem own_b0 {P : Prop} [Decidable P] (h : own_b P = 0) : ¬ P := fun q => by rw [own_b, if_pos q] at h; cases h
theorem own_b1 {P : Prop} [Decidable P] (h : ¬ own_b P = 0) : P := Decidable.byContradiction fun q => h (by rw [own_b, if_neg q])
theorem own_bt {P : Prop} [Decidable P] (h : P) : own_b P = 1 := by rw [own_b, if_pos h]
theorem own_bf {P : Prop} [Decidable P] (h : ¬ P) : own_b P = 0 := by rw [own_b, if_neg h]

theorem own_c255 (x : Int32) : ¬ ((x &&& (255 : Int32)).toUInt32.toUInt16.toUInt32.toInt32) < 0 ∧ ¬ (255 : Int32) < ((x &&& (255 : Int32)).toUInt32.toUInt16.toUInt32.toInt32) := by
  have h1 := c_and x (255 : Int32) (by decide)
  have h2 := c_i2c (x &&& (255 : Int32))
  have e0 : (0 : Int32).toInt = 0 := rfl
  have e1 : (255 : Int32).toInt = 255 := rfl
  rw [e1] at h1
  simp only [Int32.lt_iff_toInt_lt, e0, e1]
  omega
theorem own_nc {c : Int32} (h : ¬ c < 0 ∧ ¬ (255 : Int32) < c) : nar .char c = c := by
  have h2 := c_i2c c
  have e0 : (0 : Int32).toInt = 0 := rfl
  have e1 : (255 : Int32).toInt = 255 := rfl
  simp only [Int32.lt_iff_toInt_lt, e0, e1] at h
  apply Int32.toInt_inj.mp
  show c.toUInt32.toUInt16.toUInt32.toInt32.toInt = _
  omega
theorem own_fc {c : Int32} (h : ¬ c < 0 ∧ ¬ (255 : Int32) < c) : fits .char (.int c) = true := by
  have q := fits_nar_char c
  rwa [own_nc h] at q

theorem own_static {args : Array Value} {s : State} {C n d K : String} (hx : (Jvm.Cond.exactly (Term.static C n d) K).value args s none s [] = some true) (hi : (Jvm.Cond.initialized C).before args s = true) (hl : (Jvm.Cond.laysStatic C n d).before args s = true) :
    ∃ a, Sta s s.heap C n d (.ref a) ∧ Exa s s.heap a K ∧ (Term.static C n d).eval args s none [] s = some (.ref a) := by
  obtain ⟨a, ev⟩ := exa_v hx
  exact ⟨a, Sta.start ev (Or.inr ⟨hi, hl⟩), Exa.start ev hx, ev⟩
theorem own_ord {args : Array Value} {s : State} {t : Term} {C n d : String} {a : Addr} {k : Int32} (ev : t.eval args s none [] s = some (.ref a)) (h : (Jvm.Cond.eq (Term.field t C n d) (Term.int k)).value args s none s [] = some true) : Fld s s.heap a C n d (.int k) := by
  obtain ⟨x, y, e1, e2, k1, k2⟩ := cmp_v (Or.inl h)
  have e3 : y = .int k := (Option.some.inj e2).symm
  subst e3
  obtain ⟨z, rfl⟩ := k2
  have e4 : z = k := by simpa [Cond.value, e1, e2] using h
  subst e4
  exact Fld.start (by rw [← fld_at ev]; exact e1)

abbrev own_EL : List (String × Nat) := consts_1
theorem own_EW {Z : State} {a0 : Array Value} (hw : ∀ d ∈ tables_1, d.before a0 Z = true) : EW Z a0 own_EL := (EW.cons (hw _ (List.mem_of_getElem? (i := 33) rfl)) (by decide) (EW.cons (hw _ (List.mem_of_getElem? (i := 21) rfl)) (by decide) EW.nil))
theorem own_wS {Z : State} {a0 : Array Value} (hw : ∀ d ∈ tables_1, d.before a0 Z = true) : ∀ d ∈ Bundle.stringAtoms, d.before a0 Z = true := fun d hd => hw d ((by decide +kernel : ∀ d ∈ Bundle.stringAtoms, d ∈ tables_1) d hd)
theorem own_ws1 {Z : State} {a0 : Array Value} (hw : ∀ d ∈ tables_1, d.before a0 Z = true) : ∀ d ∈ StrChars.Road.words, d.before a0 Z = true := fun d hd => hw d ((by decide +kernel : ∀ d ∈ StrChars.Road.words, d ∈ tables_1) d hd)
theorem own_we {Z : State} {a0 : Array Value} (hw : ∀ d ∈ tables_1, d.before a0 Z = true) : ∀ d ∈ StrChars.Road.wordsEq, d.before a0 Z = true := fun d hd => hw d ((by decide +kernel : ∀ d ∈ StrChars.Road.wordsEq, d ∈ tables_1) d hd)
theorem own_up (cs : List Int32) (h : ∀ c ∈ cs, ¬ c < 0 ∧ ¬ (255 : Int32) < c) : ∀ c ∈ cs, ¬ c < 0 ∧ ¬ (65535 : Int32) < c := fun c hc => ⟨(h c hc).1, fun q => (h c hc).2 (by rw [Int32.lt_iff_toInt_lt] at q ⊢; have e1 : (65535 : Int32).toInt = 65535 := rfl; have e2 : (255 : Int32).toInt = 255 := rfl; omega)⟩
theorem own_and3n (x : Int32) : ∃ n : Nat, n ≤ 3 ∧ x &&& (3 : Int32) = Int32.ofNat n := by
  have h := c_mask x 3 2 (by decide) (by decide)
  refine ⟨(x &&& (3 : Int32)).toInt.toNat, by omega, Int32.toInt_inj.mp ?_⟩
  rw [Int32.toInt_ofNat_of_lt (by omega)]; omega
theorem own_num {n k : Nat} (hn : n ≤ 3) (hk : k ≤ 3) : Int32.ofNat n = Int32.ofNat k ↔ n = k := by
  constructor
  · intro h
    have q := congrArg Int32.toInt h
    rw [Int32.toInt_ofNat_of_lt (by omega), Int32.toInt_ofNat_of_lt (by omega)] at q; omega
  · intro h; rw [h]
theorem own_tk {n : Nat} (hn : n ≤ 3) {a b c u v : Int32} : ([a, b, c] : List Int32).take n = [u, v] ↔ (n = 2 ∧ a = u ∧ b = v) := by
  have h : n = 0 ∨ n = 1 ∨ n = 2 ∨ n = 3 := by omega
  rcases h with rfl | rfl | rfl | rfl <;> simp

theorem d4_0 : decode jdk_42_method_149_code 0 = .ok (.aload_n 0, 1) := by decide +kernel
theorem d4_1 : decode jdk_42_method_149_code 1 = .ok (.invokespecial 1, 3) := by decide +kernel
theorem d4_4 : decode jdk_42_method_149_code 4 = .ok (.iload_n 3, 1) := by decide +kernel
theorem d4_5 : decode jdk_42_method_149_code 5 = .ok (.ifCond .ne 22, 3) := by decide +kernel
theorem d4_8 : decode jdk_42_method_149_code 8 = .ok (.aload_n 0, 1) := by decide +kernel
theorem d4_9 : decode jdk_42_method_149_code 9 = .ok (.ldc 7, 2) := by decide +kernel
theorem d4_11 : decode jdk_42_method_149_code 11 = .ok (.getfield 9, 3) := by decide +kernel
theorem d4_14 : decode jdk_42_method_149_code 14 = .ok (.putfield 9, 3) := by decide +kernel
theorem d4_17 : decode jdk_42_method_149_code 17 = .ok (.aload_n 0, 1) := by decide +kernel
theorem d4_18 : decode jdk_42_method_149_code 18 = .ok (.ldc 7, 2) := by decide +kernel
theorem d4_20 : decode jdk_42_method_149_code 20 = .ok (.getfield 15, 3) := by decide +kernel
theorem d4_23 : decode jdk_42_method_149_code 23 = .ok (.putfield 15, 3) := by decide +kernel
theorem d4_26 : decode jdk_42_method_149_code 26 = .ok (.return_, 1) := by decide +kernel
theorem d4_27 : decode jdk_42_method_149_code 27 = .ok (.getstatic 38, 3) := by decide +kernel
theorem d4_30 : decode jdk_42_method_149_code 30 = .ok (.ifCond .eq 28, 3) := by decide +kernel
theorem d4_33 : decode jdk_42_method_149_code 33 = .ok (.aload_n 1, 1) := by decide +kernel
theorem d4_34 : decode jdk_42_method_149_code 34 = .ok (.iload_n 2, 1) := by decide +kernel
theorem d4_35 : decode jdk_42_method_149_code 35 = .ok (.iload_n 3, 1) := by decide +kernel
theorem d4_36 : decode jdk_42_method_149_code 36 = .ok (.invokestatic 177, 3) := by decide +kernel
theorem d4_39 : decode jdk_42_method_149_code 39 = .ok (.astore 5, 2) := by decide +kernel
theorem d4_41 : decode jdk_42_method_149_code 41 = .ok (.aload_n 0, 1) := by decide +kernel
theorem d4_42 : decode jdk_42_method_149_code 42 = .ok (.aload 5, 2) := by decide +kernel
theorem d4_44 : decode jdk_42_method_149_code 44 = .ok (.iload_n 3, 1) := by decide +kernel
theorem d4_45 : decode jdk_42_method_149_code 45 = .ok (.invokestatic 47, 3) := by decide +kernel
theorem d4_48 : decode jdk_42_method_149_code 48 = .ok (.putfield 15, 3) := by decide +kernel
theorem d4_51 : decode jdk_42_method_149_code 51 = .ok (.aload_n 0, 1) := by decide +kernel
theorem d4_52 : decode jdk_42_method_149_code 52 = .ok (.aload 5, 2) := by decide +kernel
theorem d4_54 : decode jdk_42_method_149_code 54 = .ok (.putfield 9, 3) := by decide +kernel
theorem d4_57 : decode jdk_42_method_149_code 57 = .ok (.return_, 1) := by decide +kernel
theorem d4_58 : decode jdk_42_method_149_code 58 = .ok (.aload_n 0, 1) := by decide +kernel
theorem d4_59 : decode jdk_42_method_149_code 59 = .ok (.iconst 1, 1) := by decide +kernel
theorem d4_60 : decode jdk_42_method_149_code 60 = .ok (.putfield 15, 3) := by decide +kernel
theorem d4_63 : decode jdk_42_method_149_code 63 = .ok (.aload_n 0, 1) := by decide +kernel
theorem d4_64 : decode jdk_42_method_149_code 64 = .ok (.aload_n 1, 1) := by decide +kernel
theorem d4_65 : decode jdk_42_method_149_code 65 = .ok (.iload_n 2, 1) := by decide +kernel
theorem d4_66 : decode jdk_42_method_149_code 66 = .ok (.iload_n 3, 1) := by decide +kernel
theorem d4_67 : decode jdk_42_method_149_code 67 = .ok (.invokestatic 180, 3) := by decide +kernel
theorem d4_70 : decode jdk_42_method_149_code 70 = .ok (.putfield 9, 3) := by decide +kernel
theorem d4_73 : decode jdk_42_method_149_code 73 = .ok (.return_, 1) := by decide +kernel
theorem pd__40_IZ_41_C : parseMethodDescriptor "(IZ)C" = some ⟨[.int, .boolean], some .char⟩ := by decide +kernel
theorem pd__40_ICCC_41_Ljava_47_lang_47_String_59_ : parseMethodDescriptor "(ICCC)Ljava/lang/String;" = some ⟨[.int, .char, .char, .char], some (.object "java/lang/String")⟩ := by decide +kernel
theorem pd__40__91_C_41_V : parseMethodDescriptor "([C)V" = some ⟨[(.array .char)], none⟩ := by decide +kernel
theorem pd__40__91_CIILjava_47_lang_47_Void_59__41_V : parseMethodDescriptor "([CIILjava/lang/Void;)V" = some ⟨[(.array .char), .int, .int, (.object "java/lang/Void")], none⟩ := by decide +kernel
theorem pd__40__41_V : parseMethodDescriptor "()V" = some ⟨[], none⟩ := by decide +kernel
theorem pd__40_Ljava_47_lang_47_String_59_Ljava_47_lang_47_String_59_Ljava_47_lang_47_String_59__41_Z : parseMethodDescriptor "(Ljava/lang/String;Ljava/lang/String;Ljava/lang/String;)Z" = some ⟨[(.object "java/lang/String"), (.object "java/lang/String"), (.object "java/lang/String")], some .boolean⟩ := by decide +kernel
theorem pd__40_Ljava_47_lang_47_Object_59__41_Z : parseMethodDescriptor "(Ljava/lang/Object;)Z" = some ⟨[(.object "java/lang/Object")], some .boolean⟩ := by decide +kernel
theorem pd__40__91_B_91_B_41_Z : parseMethodDescriptor "([B[B)Z" = some ⟨[(.array .byte), (.array .byte)], some .boolean⟩ := by decide +kernel
theorem pd__40__91_CII_41__91_B : parseMethodDescriptor "([CII)[B" = some ⟨[(.array .char), .int, .int], some (.array .byte)⟩ := by decide +kernel
theorem pd__40__91_CI_91_BII_41_I : parseMethodDescriptor "([CI[BII)I" = some ⟨[(.array .char), .int, (.array .byte), .int, .int], some .int⟩ := by decide +kernel
theorem pd__40__91_BI_41_B : parseMethodDescriptor "([BI)B" = some ⟨[(.array .byte), .int], some .byte⟩ := by decide +kernel
theorem ef_4 (m : MethodId) (x0 : Addr) (x1 : Addr) (x2 : Int32) (x3 : Int32) : entryFrame m #[(.ref x0), (.ref x1), (.int x2), (.int x3), .null] 6 = mkF m 0 #[.val (.ref x0), .val (.ref x1), .val (.int x2), .val (.int x3), .val .null, .unset] [] := by first | (simp [entryFrame, mkF, argsToLocals, Value.category]; done) | rfl
def Q4 (Z : State) (a1 : Addr) (a2 : Addr) (p3 : Int32) (p4 : Int32) (u1 : Value) (h0 : Heap) (n0 : Nat) (v : Option Value) (h : Heap) (L : List Loc) : Prop := v = none ∧ Fr n0 L ∧ Keep h0 h [a1] ∧ Txt Z h a1 ([] : List Int32)
theorem pn_java_lang_String : plainName "java/lang/String" = true := by first | (simp [plainName, overriddenIn]; done) | decide +kernel
set_option maxRecDepth 65536 in
set_option maxHeartbeats 40000000 in
theorem rm4 (l : Launch) (Z : State) (a0 : Array Value) (hw : ∀ d ∈ tables_1, d.before a0 Z = true) (ws : List Jvm.Cond) (a1 : Addr) (a2 : Addr) (p3 : Int32) (p4 : Int32) (u1 : Value) (h0 : Heap) (n0 : Nat) (Z0 : n0 ≤ h0.size) (E_a1 : Exa Z h0 a1 "java/lang/String") (ge_a1 : n0 ≤ a1) (F_value_a1 : Fld Z h0 a1 "java/lang/String" "value" "[B" .null) (F_coder_a1 : Fld Z h0 a1 "java/lang/String" "coder" "B" u1) (h4 : p4 = (0 : Int32)) :
    MetFree l (⟨"java/lang/String", "<init>", "([CIILjava/lang/Void;)V"⟩ : MethodName) (head1 (Jvm.Cond.code (⟨"java/lang/String", "<init>", "([CIILjava/lang/Void;)V"⟩ : MethodName) jdk_42_method_149_code 6 none :: ws) ({ frames := 1, cells := 4, slots := 8, locals := 12 } : Room)) (fun a U => a = #[(.ref a1), (.ref a2), (.int p3), (.int p4), .null] ∧ Z.Warmed39 U.vm ∧ U.heap = h0 ∧ CHv Z own_EL U.vm h0) (fun _ _ _ _ _ => True) (fun _ U o U' => ∃ v L, o = .returned v ∧ Q4 Z a1 a2 p3 p4 u1 h0 n0 v U'.heap L ∧ CHr Z own_EL U.vm U.heap U'.vm U'.heap ∧ ReturnedEndW U o U' L ({ frames := 1, cells := 4, slots := 8, locals := 12 } : Room).cells ({ frames := 1, cells := 4, slots := 8, locals := 12 } : Room).slots) := by
  refine MetFree.of_bodySF (plainFor_of_name pn_java_lang_String) hisR ?_
  intro p e s m args below meth c s₁ Bd hml0 hP hK
  obtain ⟨rfl, hZz, hh, H0⟩ := hP
  have hZ : Z.Warmed39 (s.setVm s.vm).vm := hZz
  have hx := Bd.exec
  have hby := Bd.bytes
  have hlk : meth.locks = false := BodyLoose.notSynchronized Bd
  have hml : c.maxLocals = 6 := hml0
  have hown : (s.setVm s.vm).vm.findClass "java/lang/String" = some m.cls := findClass_of_methodNamed Bd.named
  have hnm := (name_of_methodNamed Bd.named Bd.method).1
  have X0 : Stand p l e ({ frames := 1, cells := 4, slots := 8, locals := 12 } : Room) (s.setVm s.vm) m #[(.ref a1), (.ref a2), (.int p3), (.int p4), .null] below meth c s₁ [] 0 0 := Stand.of_body Bd
  have e0 : s₁.heap = h0 := by rw [← hh, Bd.state]; rfl
  have N0 := Fr.nil n0
  have hEL := own_EW hw
  have own_wSh := own_wS hw
  have hS0 : s.Since s.vm 0 := (State.WarmedH.refl s).since 0
  have hk0 : 0 ≤ h0.size := Nat.zero_le _
  have Ch0 : CHr Z own_EL s.vm s.heap s.vm h0 := by rw [hh]; exact CHr.refl H0
  show GoW p.tables e below s (Q4 Z a1 a2 p3 p4 u1 h0 n0) Z own_EL ({ frames := 1, cells := 4, slots := 8, locals := 12 } : Room).cells ({ frames := 1, cells := 4, slots := 8, locals := 12 } : Room).slots (s₁.setTop (entryFrame m #[(.ref a1), (.ref a2), (.int p3), (.int p4), .null] 6))
  refine GoW.on (fun t k => castTop (ef_4 m a1 a2 p3 p4) k) ?_
  show GoW p.tables e below s _ _ _ _ _ (s₁.setTop (mkF m 0 #[.val (.ref a1), .val (.ref a2), .val (.int p3), .val (.int p4), .val .null, .unset] []))
  have Sf0 : Safe Z own_EL s.vm h0 a1 := own_safe0 hZ.alike E_a1 F_value_a1
  refine GoW.on (fun t k => XS.aloadN X0.here hx rfl (hb hby d4_0) rfl rfl k) ?_
  show GoW p.tables e below s _ _ _ _ _ (s₁.setTop (mkF m 1 #[.val (.ref a1), .val (.ref a2), .val (.int p3), .val (.int p4), .val .null, .unset] [(.ref a1)]))
  obtain ⟨T1, X1, e1, st1⟩ := initO X0 hx hZ hown (hw _ (List.mem_of_getElem? (i := 18) rfl)) (hw _ (List.mem_of_getElem? (i := 19) rfl)) (hw _ (List.mem_of_getElem? (i := 20) rfl)) e0 (g := (mkF m 1 #[.val (.ref a1), .val (.ref a2), .val (.int p3), .val (.int p4), .val .null, .unset] [(.ref a1)])) rfl (by rw [hml]; rfl) rfl (hb hby d4_1) (by decide) (W := 0) (by show 2 * 0 + _ ≤ _; exact Nat.le_of_eq rfl) (by decide)
  refine GoW.on st1 ?_
  show GoW p.tables e below s _ _ _ _ _ (T1.setTop (mkF m 4 #[.val (.ref a1), .val (.ref a2), .val (.int p3), .val (.int p4), .val .null, .unset] []))
  refine GoW.on (fun t k => XS.iloadN X1.here hx rfl (hb hby d4_4) rfl k) ?_
  show GoW p.tables e below s _ _ _ _ _ (T1.setTop (mkF m 5 #[.val (.ref a1), .val (.ref a2), .val (.int p3), .val (.int p4), .val .null, .unset] [(.int p4)]))
  refine GoW.on (fun t k => XS.ifNo X1.here hx rfl (hb hby d4_5) rfl ((if0 _ _).trans (teq h4).2) k) ?_
  show GoW p.tables e below s _ _ _ _ _ (T1.setTop (mkF m 8 #[.val (.ref a1), .val (.ref a2), .val (.int p3), .val (.int p4), .val .null, .unset] []))
  refine GoW.on (fun t k => XS.aloadN X1.here hx rfl (hb hby d4_8) rfl rfl k) ?_
  show GoW p.tables e below s _ _ _ _ _ (T1.setTop (mkF m 9 #[.val (.ref a1), .val (.ref a2), .val (.int p3), .val (.int p4), .val .null, .unset] [(.ref a1)]))
  obtain ⟨ad2, T2, h2, j2, bd2, k2, X2, e2, E2, hS2, hk2, hZ2, hown2, Ex2, Fc2, Fv2, Av2, la2, lb2, C2, Lt2, Ne2, st2⟩ := ldcCH X1 hx hZ hown (hw _ (List.mem_of_getElem? (i := 21) rfl)) own_wSh e1 hS0 hk0 hEL (by decide : ("java/lang/String", 7) ∈ own_EL) Ch0.1 (vs := (([] : List Int32).map (fun c => c.toInt8.toInt32)).map Value.int) (z := (0 : Int32)) ⟨by decide, by decide⟩ (by decide) (by decide) (g := (mkF m 9 #[.val (.ref a1), .val (.ref a2), .val (.int p3), .val (.int p4), .val .null, .unset] [(.ref a1)])) rfl (hb hby d4_9) (n := 0) (by decide) (by decide) (by decide) (by decide)
  have Sf3 := CHr.safe C2 E_a1.lt Sf0
  have Ch4 := Ch0.trans C2
  have E_a1_5 := E_a1.ext E2
  have F_value_a1_6 := F_value_a1.ext E2
  have F_coder_a1_7 := F_coder_a1.ext E2
  have Zp8 := Nat.le_trans Z0 E2.1
  have Kp9 := (Keep.refl h0 [a1]).ext E2
  have ne10 := Ne2 a1 Sf3
  refine GoW.on st2 ?_
  show GoW p.tables e below s _ _ _ _ _ (T2.setTop (mkF m 11 #[.val (.ref a1), .val (.ref a2), .val (.int p3), .val (.int p4), .val .null, .unset] [(.ref ad2), (.ref a1)]))
  obtain ⟨T11, X11, e11, st11⟩ := getF X2 hx hZ2 hown2 (host := "") (Or.inl (hw _ (List.mem_of_getElem? (i := 27) rfl))) Via.refl e2 Fv2 (g := (mkF m 11 #[.val (.ref a1), .val (.ref a2), .val (.int p3), .val (.int p4), .val .null, .unset] [(.ref ad2), (.ref a1)])) rfl rfl (hb hby d4_11)
  refine GoW.on st11 ?_
  show GoW p.tables e below s _ _ _ _ _ (T11.setTop (mkF m 14 #[.val (.ref a1), .val (.ref a2), .val (.int p3), .val (.int p4), .val .null, .unset] [(.ref bd2), (.ref a1)]))
  obtain ⟨T12, h12, X12, e12, W12, st12⟩ := putF X11 hx hZ2 hown2 (host := "") (Or.inl (hw _ (List.mem_of_getElem? (i := 27) rfl))) Via.refl e11 F_value_a1_6 E_a1_5 (Or.inr ⟨(hw _ (List.mem_of_getElem? (i := 23) rfl)), rfl, hnm⟩) (hw _ (List.mem_of_getElem? (i := 8) rfl)) (ty := (.array .byte)) (by decide) rfl rfl (g := (mkF m 14 #[.val (.ref a1), .val (.ref a2), .val (.int p3), .val (.int p4), .val .null, .unset] [(.ref bd2), (.ref a1)])) rfl rfl (hb hby d4_14)
  have Sf13 := Sf3
  have Sf14 := Safe.wr W12 Sf13 Ch4.1 Sf13
  have Ch15 := Ch4.trans (CHr.wr W12 Sf13 Ch4.1)
  have hk16 := Nat.le_trans hk2 (Keep.of_wr W12).1
  have E_a1_17 := E_a1_5.wr W12
  have F_value_a1_18 := F_value_a1_6.same W12
  have F_coder_a1_19 := F_coder_a1_7.other W12 (Or.inr (slot_ne (Or.inr (hw _ (List.mem_of_getElem? (i := 24) rfl))) (Or.inr (hw _ (List.mem_of_getElem? (i := 23) rfl))) (by decide) (t := .byte) (t' := (.array .byte)) (by decide) (by decide)))
  have Fc2_20 := Fc2.other W12 (Or.inl (Ne.symm ne10.1))
  have Fv2_21 := Fv2.other W12 (Or.inl (Ne.symm ne10.1))
  have Av2_22 := Av2.other W12 (Ne.symm ne10.2)
  have Zp23 := Nat.le_trans Zp8 (Keep.of_wr W12).1
  have Kp24 := Kp9.wr W12 (Or.inl (List.mem_of_getElem? (i := 0) rfl))
  have Np25 := Fr.snoc X12 N0 ge_a1
  refine GoW.on st12 ?_
  show GoW p.tables e below s _ _ _ _ _ (T12.setTop (mkF m 17 #[.val (.ref a1), .val (.ref a2), .val (.int p3), .val (.int p4), .val .null, .unset] []))
  refine GoW.on (fun t k => XS.aloadN X12.here hx rfl (hb hby d4_17) rfl rfl k) ?_
  show GoW p.tables e below s _ _ _ _ _ (T12.setTop (mkF m 18 #[.val (.ref a1), .val (.ref a2), .val (.int p3), .val (.int p4), .val .null, .unset] [(.ref a1)]))
  obtain ⟨ad26, T26, h26, j26, bd26, k26, X26, e26, E26, hS26, hk26, hZ26, hown26, Ex26, Fc26, Fv26, Av26, la26, lb26, C26, Lt26, Ne26, st26⟩ := ldcCH X12 hx hZ2 hown2 (hw _ (List.mem_of_getElem? (i := 21) rfl)) own_wSh e12 hS2 hk16 hEL (by decide : ("java/lang/String", 7) ∈ own_EL) Ch15.1 (vs := (([] : List Int32).map (fun c => c.toInt8.toInt32)).map Value.int) (z := (0 : Int32)) ⟨by decide, by decide⟩ (by decide) (by decide) (g := (mkF m 18 #[.val (.ref a1), .val (.ref a2), .val (.int p3), .val (.int p4), .val .null, .unset] [(.ref a1)])) rfl (hb hby d4_18) (n := 0) (by decide) (by decide) (by decide) (by decide)
  have Sf27 := CHr.safe C26 E_a1_17.lt Sf14
  have Ch28 := Ch15.trans C26
  have E_a1_29 := E_a1_17.ext E26
  have F_value_a1_30 := F_value_a1_18.ext E26
  have F_coder_a1_31 := F_coder_a1_19.ext E26
  have Fc2_32 := Fc2_20.ext E26
  have Fv2_33 := Fv2_21.ext E26
  have Av2_34 := Av2_22.ext E26
  have Zp35 := Nat.le_trans Zp23 E26.1
  have Kp36 := Kp24.ext E26
  have ne37 := Ne26 a1 Sf27
  refine GoW.on st26 ?_
  show GoW p.tables e below s _ _ _ _ _ (T26.setTop (mkF m 20 #[.val (.ref a1), .val (.ref a2), .val (.int p3), .val (.int p4), .val .null, .unset] [(.ref ad26), (.ref a1)]))
  obtain ⟨T38, X38, e38, st38⟩ := getF X26 hx hZ26 hown26 (host := "") (Or.inl (hw _ (List.mem_of_getElem? (i := 28) rfl))) Via.refl e26 Fc26 (g := (mkF m 20 #[.val (.ref a1), .val (.ref a2), .val (.int p3), .val (.int p4), .val .null, .unset] [(.ref ad26), (.ref a1)])) rfl rfl (hb hby d4_20)
  refine GoW.on st38 ?_
  show GoW p.tables e below s _ _ _ _ _ (T38.setTop (mkF m 23 #[.val (.ref a1), .val (.ref a2), .val (.int p3), .val (.int p4), .val .null, .unset] [(.int (0 : Int32)), (.ref a1)]))
  obtain ⟨T39, h39, X39, e39, W39, st39⟩ := putFN X38 hx hZ26 hown26 (hw _ (List.mem_of_getElem? (i := 28) rfl)) Via.refl e38 F_coder_a1_31 E_a1_29 (Or.inr ⟨(hw _ (List.mem_of_getElem? (i := 24) rfl)), rfl, hnm⟩) (hw _ (List.mem_of_getElem? (i := 8) rfl)) (ty := .byte) (v' := .int (0 : Int32)) (by decide) rfl rfl (g := (mkF m 23 #[.val (.ref a1), .val (.ref a2), .val (.int p3), .val (.int p4), .val .null, .unset] [(.int (0 : Int32)), (.ref a1)])) rfl rfl (hb hby d4_23)
  have Sf40 := Sf27
  have Sf41 := Safe.wr W39 Sf40 Ch28.1 Sf40
  have Ch42 := Ch28.trans (CHr.wr W39 Sf40 Ch28.1)
  have hk43 := Nat.le_trans hk26 (Keep.of_wr W39).1
  have E_a1_44 := E_a1_29.wr W39
  have F_value_a1_45 := F_value_a1_30.other W39 (Or.inr (slot_ne (Or.inr (hw _ (List.mem_of_getElem? (i := 23) rfl))) (Or.inr (hw _ (List.mem_of_getElem? (i := 24) rfl))) (by decide) (t := (.array .byte)) (t' := .byte) (by decide) (by decide)))
  have F_coder_a1_46 := F_coder_a1_31.same W39
  have Fc2_47 := Fc2_32.other W39 (Or.inl (Ne.symm ne10.1))
  have Fv2_48 := Fv2_33.other W39 (Or.inl (Ne.symm ne10.1))
  have Av2_49 := Av2_34.other W39 (Ne.symm ne10.2)
  have Fc26_50 := Fc26.other W39 (Or.inl (Ne.symm ne37.1))
  have Fv26_51 := Fv26.other W39 (Or.inl (Ne.symm ne37.1))
  have Av26_52 := Av26.other W39 (Ne.symm ne37.2)
  have Zp53 := Nat.le_trans Zp35 (Keep.of_wr W39).1
  have Kp54 := Kp36.wr W39 (Or.inl (List.mem_of_getElem? (i := 0) rfl))
  have Np55 := Fr.snoc X39 Np25 ge_a1
  refine GoW.on st39 ?_
  show GoW p.tables e below s _ _ _ _ _ (T39.setTop (mkF m 26 #[.val (.ref a1), .val (.ref a2), .val (.int p3), .val (.int p4), .val .null, .unset] []))
  refine GoW.retV X39 hx hlk hZ26 hS26 hk43 hEL Ch42 Bd.returns (hb hby d4_26) (by decide) (by decide) e39 ?_
  have TxE : Txt Z h39 a1 ([] : List Int32) := ⟨(fun _ q => nomatch q), by decide, E_a1_44, F_coder_a1_46, bd2, k2, F_value_a1_45, Av2_49⟩
  exact ⟨rfl, Np55, Kp54, TxE⟩
theorem d3_0 : decode jdk_42_method_3_code 0 = .ok (.aload_n 0, 1) := by decide +kernel
theorem d3_1 : decode jdk_42_method_3_code 1 = .ok (.aload_n 1, 1) := by decide +kernel
theorem d3_2 : decode jdk_42_method_3_code 2 = .ok (.iconst 0, 1) := by decide +kernel
theorem d3_3 : decode jdk_42_method_3_code 3 = .ok (.aload_n 1, 1) := by decide +kernel
theorem d3_4 : decode jdk_42_method_3_code 4 = .ok (.arraylength, 1) := by decide +kernel
theorem d3_5 : decode jdk_42_method_3_code 5 = .ok (.aconst_null, 1) := by decide +kernel
theorem d3_6 : decode jdk_42_method_3_code 6 = .ok (.invokespecial 27, 3) := by decide +kernel
theorem d3_9 : decode jdk_42_method_3_code 9 = .ok (.return_, 1) := by decide +kernel
theorem ef_3 (m : MethodId) (x0 : Addr) (x1 : Addr) : entryFrame m #[(.ref x0), (.ref x1)] 2 = mkF m 0 #[.val (.ref x0), .val (.ref x1)] [] := by first | (simp [entryFrame, mkF, argsToLocals, Value.category]; done) | rfl
def Q3 (Z : State) (a1 : Addr) (a2 : Addr) (u1 : Value) (k : ClassId) (h0 : Heap) (n0 : Nat) (v : Option Value) (h : Heap) (L : List Loc) : Prop := v = none ∧ Fr n0 L ∧ Keep h0 h [a1] ∧ Txt Z h a1 ([] : List Int32)
set_option maxRecDepth 65536 in
set_option maxHeartbeats 40000000 in
theorem rm3 (l : Launch) (Z : State) (a0 : Array Value) (hw : ∀ d ∈ tables_1, d.before a0 Z = true) (ws : List Jvm.Cond) (a1 : Addr) (a2 : Addr) (u1 : Value) (k : ClassId) (h0 : Heap) (n0 : Nat) (Z0 : n0 ≤ h0.size) (E_a1 : Exa Z h0 a1 "java/lang/String") (ge_a1 : n0 ≤ a1) (F_value_a1 : Fld Z h0 a1 "java/lang/String" "value" "[B" .null) (F_coder_a1 : Fld Z h0 a1 "java/lang/String" "coder" "B" u1) (V_a2 : Arv Z h0 a2 k .char (0 : Int32) [] (.int (0 : Int32))) :
    MetFree l (⟨"java/lang/String", "<init>", "([C)V"⟩ : MethodName) (head1 (Jvm.Cond.code (⟨"java/lang/String", "<init>", "([C)V"⟩ : MethodName) jdk_42_method_3_code 2 none :: ws) ({ frames := 2, cells := 4, slots := 8, locals := 29 } : Room)) (fun a U => a = #[(.ref a1), (.ref a2)] ∧ Z.Warmed39 U.vm ∧ U.heap = h0 ∧ CHv Z own_EL U.vm h0) (fun _ _ _ _ _ => True) (fun _ U o U' => ∃ v L, o = .returned v ∧ Q3 Z a1 a2 u1 k h0 n0 v U'.heap L ∧ CHr Z own_EL U.vm U.heap U'.vm U'.heap ∧ ReturnedEndW U o U' L ({ frames := 2, cells := 4, slots := 8, locals := 29 } : Room).cells ({ frames := 2, cells := 4, slots := 8, locals := 29 } : Room).slots) := by
  refine MetFree.of_bodySF (plainFor_of_name pn_java_lang_String) hisR ?_
  intro p e s m args below meth c s₁ Bd hml0 hP hK
  obtain ⟨rfl, hZz, hh, H0⟩ := hP
  have hZ : Z.Warmed39 (s.setVm s.vm).vm := hZz
  have hx := Bd.exec
  have hby := Bd.bytes
  have hlk : meth.locks = false := BodyLoose.notSynchronized Bd
  have hml : c.maxLocals = 2 := hml0
  have hown : (s.setVm s.vm).vm.findClass "java/lang/String" = some m.cls := findClass_of_methodNamed Bd.named
  have hnm := (name_of_methodNamed Bd.named Bd.method).1
  have X0 : Stand p l e ({ frames := 2, cells := 4, slots := 8, locals := 29 } : Room) (s.setVm s.vm) m #[(.ref a1), (.ref a2)] below meth c s₁ [] 0 0 := Stand.of_body Bd
  have e0 : s₁.heap = h0 := by rw [← hh, Bd.state]; rfl
  have N0 := Fr.nil n0
  have hEL := own_EW hw
  have own_wSh := own_wS hw
  have hS0 : s.Since s.vm 0 := (State.WarmedH.refl s).since 0
  have hk0 : 0 ≤ h0.size := Nat.zero_le _
  have Ch0 : CHr Z own_EL s.vm s.heap s.vm h0 := by rw [hh]; exact CHr.refl H0
  show GoW p.tables e below s (Q3 Z a1 a2 u1 k h0 n0) Z own_EL ({ frames := 2, cells := 4, slots := 8, locals := 29 } : Room).cells ({ frames := 2, cells := 4, slots := 8, locals := 29 } : Room).slots (s₁.setTop (entryFrame m #[(.ref a1), (.ref a2)] 2))
  refine GoW.on (fun t k => castTop (ef_3 m a1 a2) k) ?_
  show GoW p.tables e below s _ _ _ _ _ (s₁.setTop (mkF m 0 #[.val (.ref a1), .val (.ref a2)] []))
  refine GoW.on (fun t k => XS.aloadN X0.here hx rfl (hb hby d3_0) rfl rfl (XS.aloadN X0.here hx rfl (hb hby d3_1) rfl rfl (XS.iconst X0.here hx rfl (hb hby d3_2) (XS.aloadN X0.here hx rfl (hb hby d3_3) rfl rfl k)))) ?_
  show GoW p.tables e below s _ _ _ _ _ (s₁.setTop (mkF m 4 #[.val (.ref a1), .val (.ref a2)] [(.ref a2), (.int (0 : Int32)), (.ref a2), (.ref a1)]))
  obtain ⟨cl1, Ar1, q1, S1, M1, H1, G1⟩ := id V_a2
  refine GoW.on (fun t k => X0.arraylength hx (by rw [e0]; exact Ar1.1) (State.isArrayOf_alike hZ.alike Ar1.2.1) (g := (mkF m 4 #[.val (.ref a1), .val (.ref a2)] [(.ref a2), (.int (0 : Int32)), (.ref a2), (.ref a1)])) rfl rfl (hb hby d3_4) t k) ?_
  rw [len_of S1 M1]
  show GoW p.tables e below s _ _ _ _ _ (s₁.setTop (mkF m 5 #[.val (.ref a1), .val (.ref a2)] [(.int (0 : Int32)), (.int (0 : Int32)), (.ref a2), (.ref a1)]))
  refine GoW.on (fun t k => XS.aconstNull X0.here hx rfl (hb hby d3_5) k) ?_
  show GoW p.tables e below s _ _ _ _ _ (s₁.setTop (mkF m 6 #[.val (.ref a1), .val (.ref a2)] [.null, (.int (0 : Int32)), (.int (0 : Int32)), (.ref a2), (.ref a1)]))
  obtain ⟨_, _, ⟨T2, L2, k2, n2⟩, -, X2, Sn2, Gr2, ⟨Lc2, hQ2, l2, y2, z2, C2⟩, st2⟩ := X0.specialBackS hx (y := (⟨"java/lang/String", "<init>", "([CIILjava/lang/Void;)V"⟩ : MethodName)) rfl hown (mvT hZ (hw _ (List.mem_of_getElem? (i := 14) rfl))) (mvT hZ (hw _ (List.mem_of_getElem? (i := 15) rfl))) (mvT hZ (hw _ (List.mem_of_getElem? (i := 17) rfl))) (by decide) (backOfSH (W := 0) (rm4 l Z a0 hw [] a1 a2 (0 : Int32) (0 : Int32) u1 h0 n0 Z0 E_a1 ge_a1 F_value_a1 F_coder_a1 rfl) hZ (hw _ (List.mem_of_getElem? (i := 17) rfl)) (hw _ (List.mem_of_getElem? (i := 9) rfl)) (by decide) (by decide) hEL Ch0.1) (g := (mkF m 6 #[.val (.ref a1), .val (.ref a2)] [.null, (.int (0 : Int32)), (.int (0 : Int32)), (.ref a2), (.ref a1)])) rfl (by rw [hml]; rfl) (Steps.refl _) (a := a1) (argsL := [(.ref a2), (.int (0 : Int32)), (.int (0 : Int32)), .null]) (rest := []) (lenOf pd__40__91_CIILjava_47_lang_47_Void_59__41_V rfl) rfl (by show 2 * 0 + _ ≤ _; exact Nat.le_of_eq rfl) (hb hby d3_6) (fun _ _ => ⟨rfl, e0, (by decide : 0 + 4 ≤ _), (by decide : 0 + 8 ≤ _)⟩)
  dsimp only [Pt.U, Pt.locs, Pt.cells, Pt.slots] at X2 l2 y2 z2 st2 hQ2 Sn2 Gr2 C2
  rw [l2, y2, z2] at X2
  obtain ⟨Y2, hS2, hZ2, hown2⟩ := rebS hS0 (Nat.le_trans hk0 (Nat.le_of_eq (congrArg Array.size e0.symm))) X2 Sn2 Gr2 hZ hown
  obtain ⟨rfl, Nq2, Kq2, P2_0⟩ := hQ2
  have Ch3 := Ch0.trans C2
  have E_a1_4 := E_a1.keep Kq2
  have Zp5 := Nat.le_trans Z0 Kq2.1
  have Kp6 := (Keep.refl h0 [a1]).trans Kq2 (allS (Or.inl (List.mem_of_getElem? (i := 0) rfl)) all0)
  have Np7 := Fr.app N0 Nq2
  refine GoW.via st2 ?_
  show GoW p.tables e below s _ _ _ _ _ (T2.setTop (mkF m 9 #[.val (.ref a1), .val (.ref a2)] []))
  refine GoW.retV Y2 hx hlk hZ2 hS2 (Nat.le_refl _) hEL Ch3 Bd.returns (hb hby d3_9) (by decide) (by decide) rfl ?_
  exact ⟨rfl, Np7, Kp6, P2_0⟩
theorem d2_0 : decode method_3_code 0 = .ok (.iload_n 0, 1) := by decide +kernel
theorem d2_1 : decode method_3_code 1 = .ok (.ifCond .ne 14, 3) := by decide +kernel
theorem d2_4 : decode method_3_code 4 = .ok (.new 7, 3) := by decide +kernel
theorem d2_7 : decode method_3_code 7 = .ok (.dup, 1) := by decide +kernel
theorem d2_8 : decode method_3_code 8 = .ok (.iconst 0, 1) := by decide +kernel
theorem d2_9 : decode method_3_code 9 = .ok (.newarray .char, 2) := by decide +kernel
theorem d2_11 : decode method_3_code 11 = .ok (.invokespecial 9, 3) := by decide +kernel
theorem d2_14 : decode method_3_code 14 = .ok (.areturn, 1) := by decide +kernel
theorem d2_15 : decode method_3_code 15 = .ok (.iload_n 0, 1) := by decide +kernel
theorem d2_16 : decode method_3_code 16 = .ok (.iconst 1, 1) := by decide +kernel
theorem d2_17 : decode method_3_code 17 = .ok (.if_icmp .ne 18, 3) := by decide +kernel
theorem d2_20 : decode method_3_code 20 = .ok (.new 7, 3) := by decide +kernel
theorem d2_23 : decode method_3_code 23 = .ok (.dup, 1) := by decide +kernel
theorem d2_24 : decode method_3_code 24 = .ok (.iconst 1, 1) := by decide +kernel
theorem d2_25 : decode method_3_code 25 = .ok (.newarray .char, 2) := by decide +kernel
theorem d2_27 : decode method_3_code 27 = .ok (.dup, 1) := by decide +kernel
theorem d2_28 : decode method_3_code 28 = .ok (.iconst 0, 1) := by decide +kernel
theorem d2_29 : decode method_3_code 29 = .ok (.iload_n 1, 1) := by decide +kernel
theorem d2_30 : decode method_3_code 30 = .ok (.castore, 1) := by decide +kernel
theorem d2_31 : decode method_3_code 31 = .ok (.invokespecial 9, 3) := by decide +kernel
theorem d2_34 : decode method_3_code 34 = .ok (.areturn, 1) := by decide +kernel
theorem d2_35 : decode method_3_code 35 = .ok (.iload_n 0, 1) := by decide +kernel
theorem d2_36 : decode method_3_code 36 = .ok (.iconst 2, 1) := by decide +kernel
theorem d2_37 : decode method_3_code 37 = .ok (.if_icmp .ne 22, 3) := by decide +kernel
theorem d2_40 : decode method_3_code 40 = .ok (.new 7, 3) := by decide +kernel
theorem d2_43 : decode method_3_code 43 = .ok (.dup, 1) := by decide +kernel
theorem d2_44 : decode method_3_code 44 = .ok (.iconst 2, 1) := by decide +kernel
theorem d2_45 : decode method_3_code 45 = .ok (.newarray .char, 2) := by decide +kernel
theorem d2_47 : decode method_3_code 47 = .ok (.dup, 1) := by decide +kernel
theorem d2_48 : decode method_3_code 48 = .ok (.iconst 0, 1) := by decide +kernel
theorem d2_49 : decode method_3_code 49 = .ok (.iload_n 1, 1) := by decide +kernel
theorem d2_50 : decode method_3_code 50 = .ok (.castore, 1) := by decide +kernel
theorem d2_51 : decode method_3_code 51 = .ok (.dup, 1) := by decide +kernel
theorem d2_52 : decode method_3_code 52 = .ok (.iconst 1, 1) := by decide +kernel
theorem d2_53 : decode method_3_code 53 = .ok (.iload_n 2, 1) := by decide +kernel
theorem d2_54 : decode method_3_code 54 = .ok (.castore, 1) := by decide +kernel
theorem d2_55 : decode method_3_code 55 = .ok (.invokespecial 9, 3) := by decide +kernel
theorem d2_58 : decode method_3_code 58 = .ok (.areturn, 1) := by decide +kernel
theorem d2_59 : decode method_3_code 59 = .ok (.new 7, 3) := by decide +kernel
theorem d2_62 : decode method_3_code 62 = .ok (.dup, 1) := by decide +kernel
theorem d2_63 : decode method_3_code 63 = .ok (.iconst 3, 1) := by decide +kernel
theorem d2_64 : decode method_3_code 64 = .ok (.newarray .char, 2) := by decide +kernel
theorem d2_66 : decode method_3_code 66 = .ok (.dup, 1) := by decide +kernel
theorem d2_67 : decode method_3_code 67 = .ok (.iconst 0, 1) := by decide +kernel
theorem d2_68 : decode method_3_code 68 = .ok (.iload_n 1, 1) := by decide +kernel
theorem d2_69 : decode method_3_code 69 = .ok (.castore, 1) := by decide +kernel
theorem d2_70 : decode method_3_code 70 = .ok (.dup, 1) := by decide +kernel
theorem d2_71 : decode method_3_code 71 = .ok (.iconst 1, 1) := by decide +kernel
theorem d2_72 : decode method_3_code 72 = .ok (.iload_n 2, 1) := by decide +kernel
theorem d2_73 : decode method_3_code 73 = .ok (.castore, 1) := by decide +kernel
theorem d2_74 : decode method_3_code 74 = .ok (.dup, 1) := by decide +kernel
theorem d2_75 : decode method_3_code 75 = .ok (.iconst 2, 1) := by decide +kernel
theorem d2_76 : decode method_3_code 76 = .ok (.iload_n 3, 1) := by decide +kernel
theorem d2_77 : decode method_3_code 77 = .ok (.castore, 1) := by decide +kernel
theorem d2_78 : decode method_3_code 78 = .ok (.invokespecial 9, 3) := by decide +kernel
theorem d2_81 : decode method_3_code 81 = .ok (.areturn, 1) := by decide +kernel
theorem ef_2 (m : MethodId) (x0 : Int32) (x1 : Int32) (x2 : Int32) (x3 : Int32) : entryFrame m #[(.int x0), (.int x1), (.int x2), (.int x3)] 4 = mkF m 0 #[.val (.int x0), .val (.int x1), .val (.int x2), .val (.int x3)] [] := by first | (simp [entryFrame, mkF, argsToLocals, Value.category]; done) | rfl
def Q2 (Z : State) (p1 : Int32) (p2 : Int32) (p3 : Int32) (p4 : Int32) (G1 : Int32) (ln : Nat) (h0 : Heap) (n0 : Nat) (v : Option Value) (h : Heap) (L : List Loc) : Prop := ∃ (xs : Addr), v = some (.ref xs) ∧ Fr n0 L ∧ Keep h0 h [] ∧ Txt Z h xs (([p2, p3, p4] : List Int32).take ln)
theorem pn_com_example_rhythmwire_rhythmwire_idc_CommonSegmentsIsReportPinLaw : plainName "com/example/rhythmwire/rhythmwire/idc/CommonSegmentsIsReportPinLaw" = true := by first | (simp [plainName, overriddenIn]; done) | decide +kernel
set_option maxRecDepth 65536 in
set_option maxHeartbeats 40000000 in
theorem rm2 (l : Launch) (Z : State) (a0 : Array Value) (hw : ∀ d ∈ tables_1, d.before a0 Z = true) (ws : List Jvm.Cond) (p1 : Int32) (p2 : Int32) (p3 : Int32) (p4 : Int32) (G1 : Int32) (ln : Nat) (h0 : Heap) (n0 : Nat) (Z0 : n0 ≤ h0.size) (Old0 : Old Z n0 h0) (O2 : Sta Z Z.heap "java/lang/String" "COMPACT_STRINGS" "Z" (.int G1)) (P5 : ¬ (G1 = (0 : Int32))) (h1 : p1 = Int32.ofNat ln) (hln : ln ≤ 3) (hr2 : ¬ p2 < 0 ∧ ¬ (255 : Int32) < p2) (hr3 : ¬ p3 < 0 ∧ ¬ (255 : Int32) < p3) (hr4 : ¬ p4 < 0 ∧ ¬ (255 : Int32) < p4) :
    MetFree l (⟨"com/example/rhythmwire/rhythmwire/idc/CommonSegmentsIsReportPinLaw", "str", "(ICCC)Ljava/lang/String;"⟩ : MethodName) (head1 (Jvm.Cond.code (⟨"com/example/rhythmwire/rhythmwire/idc/CommonSegmentsIsReportPinLaw", "str", "(ICCC)Ljava/lang/String;"⟩ : MethodName) method_3_code 4 (some (.object "java/lang/String")) :: ws) ({ frames := 4, cells := 6, slots := 12, locals := 66 } : Room)) (fun a U => a = #[(.int p1), (.int p2), (.int p3), (.int p4)] ∧ Z.Warmed39 U.vm ∧ U.heap = h0 ∧ CHv Z own_EL U.vm h0) (fun _ _ _ _ _ => True) (fun _ U o U' => ∃ v L, o = .returned v ∧ Q2 Z p1 p2 p3 p4 G1 ln h0 n0 v U'.heap L ∧ CHr Z own_EL U.vm U.heap U'.vm U'.heap ∧ ReturnedEndW U o U' L ({ frames := 4, cells := 6, slots := 12, locals := 66 } : Room).cells ({ frames := 4, cells := 6, slots := 12, locals := 66 } : Room).slots) := by
  refine MetFree.of_bodySF (plainFor_of_name pn_com_example_rhythmwire_rhythmwire_idc_CommonSegmentsIsReportPinLaw) hisR ?_
  intro p e s m args below meth c s₁ Bd hml0 hP hK
  obtain ⟨rfl, hZz, hh, H0⟩ := hP
  have hZ : Z.Warmed39 (s.setVm s.vm).vm := hZz
  have hx := Bd.exec
  have hby := Bd.bytes
  have hlk : meth.locks = false := BodyLoose.notSynchronized Bd
  have hml : c.maxLocals = 4 := hml0
  have hown : (s.setVm s.vm).vm.findClass "com/example/rhythmwire/rhythmwire/idc/CommonSegmentsIsReportPinLaw" = some m.cls := findClass_of_methodNamed Bd.named
  have hnm := (name_of_methodNamed Bd.named Bd.method).1
  have X0 : Stand p l e ({ frames := 4, cells := 6, slots := 12, locals := 66 } : Room) (s.setVm s.vm) m #[(.int p1), (.int p2), (.int p3), (.int p4)] below meth c s₁ [] 0 0 := Stand.of_body Bd
  have e0 : s₁.heap = h0 := by rw [← hh, Bd.state]; rfl
  have N0 := Fr.nil n0
  have hEL := own_EW hw
  have own_wSh := own_wS hw
  have hS0 : s.Since s.vm 0 := (State.WarmedH.refl s).since 0
  have hk0 : 0 ≤ h0.size := Nat.zero_le _
  have Ch0 : CHr Z own_EL s.vm s.heap s.vm h0 := by rw [hh]; exact CHr.refl H0
  show GoW p.tables e below s (Q2 Z p1 p2 p3 p4 G1 ln h0 n0) Z own_EL ({ frames := 4, cells := 6, slots := 12, locals := 66 } : Room).cells ({ frames := 4, cells := 6, slots := 12, locals := 66 } : Room).slots (s₁.setTop (entryFrame m #[(.int p1), (.int p2), (.int p3), (.int p4)] 4))
  refine GoW.on (fun t k => castTop (ef_2 m p1 p2 p3 p4) k) ?_
  show GoW p.tables e below s _ _ _ _ _ (s₁.setTop (mkF m 0 #[.val (.int p1), .val (.int p2), .val (.int p3), .val (.int p4)] []))
  have hws := own_ws1 hw
  subst h1
  obtain rfl | rfl | rfl | rfl : ln = 0 ∨ ln = 1 ∨ ln = 2 ∨ ln = 3 := by omega
  · show GoW p.tables e below s _ _ _ _ _ (s₁.setTop (mkF m 0 #[.val (.int (0 : Int32)), .val (.int p2), .val (.int p3), .val (.int p4)] []))
    refine GoW.on (fun t k => XS.iloadN X0.here hx rfl (hb hby d2_0) rfl k) ?_
    show GoW p.tables e below s _ _ _ _ _ (s₁.setTop (mkF m 1 #[.val (.int (0 : Int32)), .val (.int p2), .val (.int p3), .val (.int p4)] [(.int (0 : Int32))]))
    refine GoW.on (fun t k => XS.ifNo X0.here hx rfl (hb hby d2_1) rfl ((if0 _ _).trans (teq (by decide : (0 : Int32) = (0 : Int32))).2) k) ?_
    show GoW p.tables e below s _ _ _ _ _ (s₁.setTop (mkF m 4 #[.val (.int (0 : Int32)), .val (.int p2), .val (.int p3), .val (.int p4)] []))
    obtain ⟨T1, h1, X1, e1, E1, A1, D1, -, st1⟩ := newO X0 hx hZ hown (hw _ (List.mem_of_getElem? (i := 7) rfl)) (hw _ (List.mem_of_getElem? (i := 8) rfl)) (hw _ (List.mem_of_getElem? (i := 9) rfl)) e0 (g := (mkF m 4 #[.val (.int (0 : Int32)), .val (.int p2), .val (.int p3), .val (.int p4)] [])) rfl (hb hby d2_4) (by decide) (by decide)
    obtain ⟨b1, g1⟩ : ∃ z, z = h0.size := ⟨_, rfl⟩
    rw [← g1] at A1 D1 st1
    have Sf2 : Safe Z own_EL s.vm h0 b1 := Safe.new (Nat.le_of_eq g1.symm)
    have ge3 : n0 ≤ b1 := Nat.le_trans Z0 (Nat.le_of_eq g1.symm)
    have sz4 : h0.size ≤ b1 := Nat.le_trans (Keep.refl h0 []).1 (Nat.le_of_eq g1.symm)
    have Sf5 := Safe.ext E1 Ch0.1 Sf2
    have Ch6 := Ch0.trans (CHr.ext E1 Ch0.1)
    have hk7 := Nat.le_trans hk0 E1.1
    have Old0_8 := Old0.ext E1
    have Zp9 := Nat.le_trans Z0 E1.1
    have Kp10 := (Keep.refl h0 []).ext E1
    have Fvalue_11 : Fld Z h1 b1 "java/lang/String" "value" "[B" .null := D1 (Or.inr (hw _ (List.mem_of_getElem? (i := 23) rfl))) (ty := (.array .byte)) (by decide)
    have Fcoder_12 : Fld Z h1 b1 "java/lang/String" "coder" "B" (.int (0 : Int32)) := D1 (Or.inr (hw _ (List.mem_of_getElem? (i := 24) rfl))) (ty := .byte) (by decide)
    refine GoW.on st1 ?_
    show GoW p.tables e below s _ _ _ _ _ (T1.setTop (mkF m 7 #[.val (.int (0 : Int32)), .val (.int p2), .val (.int p3), .val (.int p4)] [(.ref b1)]))
    refine GoW.on (fun t k => XS.dup X1.here hx rfl (hb hby d2_7) rfl rfl (XS.iconst X1.here hx rfl (hb hby d2_8) k)) ?_
    show GoW p.tables e below s _ _ _ _ _ (T1.setTop (mkF m 9 #[.val (.int (0 : Int32)), .val (.int p2), .val (.int p3), .val (.int p4)] [(.int (0 : Int32)), (.ref b1), (.ref b1)]))
    obtain ⟨T13, h13, k13, X13, e13, E13, A13, st13⟩ := newP X1 hx hZ (hw _ (List.mem_of_getElem? (i := 10) rfl)) e1 (g := (mkF m 9 #[.val (.int (0 : Int32)), .val (.int p2), .val (.int p3), .val (.int p4)] [(.int (0 : Int32)), (.ref b1), (.ref b1)])) rfl (hb hby d2_9) rfl (by decide) (cap := 0) (by decide) (by decide) (by decide) (by decide)
    obtain ⟨b13, g13⟩ : ∃ z, z = h1.size := ⟨_, rfl⟩
    rw [← g13] at A13 st13
    have ne14 : b1 ≠ b13 := Nat.ne_of_lt (Nat.lt_of_lt_of_eq A1.lt g13.symm)
    have Sf15 : Safe Z own_EL s.vm h1 b13 := Safe.new (Nat.le_of_eq g13.symm)
    have ge16 : n0 ≤ b13 := Nat.le_trans Zp9 (Nat.le_of_eq g13.symm)
    have sz17 : h0.size ≤ b13 := Nat.le_trans Kp10.1 (Nat.le_of_eq g13.symm)
    have Sf18 := Safe.ext E13 Ch6.1 Sf5
    have Sf19 := Safe.ext E13 Ch6.1 Sf15
    have Ch20 := Ch6.trans (CHr.ext E13 Ch6.1)
    have hk21 := Nat.le_trans hk7 E13.1
    have Old0_22 := Old0_8.ext E13
    have A1_23 := A1.ext E13
    have Fvalue_24 := Fvalue_11.ext E13
    have Fcoder_25 := Fcoder_12.ext E13
    have Zp26 := Nat.le_trans Zp9 E13.1
    have Kp27 := Kp10.ext E13
    have Vb13_28 : Arv Z h13 b13 k13 .char (0 : Int32) [] (.int (0 : Int32)) := (Arv.new A13 (by decide)).pad (pad_rep [] (.int (0 : Int32)) 0)
    refine GoW.on st13 ?_
    show GoW p.tables e below s _ _ _ _ _ (T13.setTop (mkF m 11 #[.val (.int (0 : Int32)), .val (.int p2), .val (.int p3), .val (.int p4)] [(.ref b13), (.ref b1), (.ref b1)]))
    obtain ⟨_, _, ⟨T29, L29, k29, n29⟩, -, X29, Sn29, Gr29, ⟨Lc29, hQ29, l29, y29, z29, C29⟩, st29⟩ := X13.specialBackS hx (y := (⟨"java/lang/String", "<init>", "([C)V"⟩ : MethodName)) rfl hown (mvT hZ (hw _ (List.mem_of_getElem? (i := 11) rfl))) (mvT hZ (hw _ (List.mem_of_getElem? (i := 12) rfl))) (mvT hZ (hw _ (List.mem_of_getElem? (i := 13) rfl))) (by decide) (backOfSH (W := 1) (rm3 l Z a0 hw [] b1 b13 (.int (0 : Int32)) k13 h13 n0 Zp26 A1_23 ge3 Fvalue_24 Fcoder_25 Vb13_28) hZ (hw _ (List.mem_of_getElem? (i := 13) rfl)) (hw _ (List.mem_of_getElem? (i := 9) rfl)) (by decide) (by decide) hEL Ch20.1) (g := (mkF m 11 #[.val (.int (0 : Int32)), .val (.int p2), .val (.int p3), .val (.int p4)] [(.ref b13), (.ref b1), (.ref b1)])) rfl (by rw [hml]; rfl) (Steps.refl _) (a := b1) (argsL := [(.ref b13)]) (rest := [(.ref b1)]) (lenOf pd__40__91_C_41_V rfl) rfl (by show 2 * 0 + _ ≤ _; exact Nat.le_of_eq rfl) (hb hby d2_11) (fun _ _ => ⟨rfl, e13, (by decide : ((0 + 1) + 1) + 4 ≤ _), (by decide : ((0 + 4) + 0) + 8 ≤ _)⟩)
    dsimp only [Pt.U, Pt.locs, Pt.cells, Pt.slots] at X29 l29 y29 z29 st29 hQ29 Sn29 Gr29 C29
    rw [l29, y29, z29] at X29
    obtain ⟨Y29, hS29, hZ29, hown29⟩ := rebS hS0 (Nat.le_trans hk21 (Nat.le_of_eq (congrArg Array.size e13.symm))) X29 Sn29 Gr29 hZ hown
    obtain ⟨rfl, Nq29, Kq29, P29_0⟩ := hQ29
    have Sf30 := CHr.safe C29 A1_23.lt Sf18
    have Sf31 := CHr.safe C29 Vb13_28.lt Sf19
    have Ch32 := Ch20.trans C29
    have Old0_33 := Old0_22.keep Kq29 (allS ge3 all0)
    have A1_34 := A1_23.keep Kq29
    have Vb13_35 := Vb13_28.keep Kq29 (ninS (Ne.symm ne14) nin0)
    have Zp36 := Nat.le_trans Zp26 Kq29.1
    have Kp37 := Kp27.trans Kq29 (allS (Or.inr sz4) all0)
    have Np38 := Fr.app N0 Nq29
    refine GoW.via st29 ?_
    show GoW p.tables e below s _ _ _ _ _ (T29.setTop (mkF m 14 #[.val (.int (0 : Int32)), .val (.int p2), .val (.int p3), .val (.int p4)] [(.ref b1)]))
    refine GoW.retA Y29 hx hlk hZ29 hS29 (Nat.le_refl _) hEL Ch32 (v := (.ref b1)) rfl Bd.returns rfl (hb hby d2_14) (by decide) (by decide) rfl ?_
    have TxE : Txt Z T29.heap b1 (([p2, p3, p4] : List Int32).take 0) := P29_0
    exact ⟨b1, rfl, Np38, Kp37, TxE⟩
  · show GoW p.tables e below s _ _ _ _ _ (s₁.setTop (mkF m 0 #[.val (.int (1 : Int32)), .val (.int p2), .val (.int p3), .val (.int p4)] []))
    refine GoW.on (fun t k => XS.iloadN X0.here hx rfl (hb hby d2_0) rfl k) ?_
    show GoW p.tables e below s _ _ _ _ _ (s₁.setTop (mkF m 1 #[.val (.int (1 : Int32)), .val (.int p2), .val (.int p3), .val (.int p4)] [(.int (1 : Int32))]))
    refine GoW.on (fun t k => XS.ifYes X0.here hx rfl (pc0 := 1) (pc' := 15) rfl (hb hby d2_1) rfl ((if0 _ _).trans (feq (by decide : ¬ ((1 : Int32) = (0 : Int32)))).2) (by decide) (by decide) k) ?_
    show GoW p.tables e below s _ _ _ _ _ (s₁.setTop (mkF m 15 #[.val (.int (1 : Int32)), .val (.int p2), .val (.int p3), .val (.int p4)] []))
    refine GoW.on (fun t k => XS.iloadN X0.here hx rfl (hb hby d2_15) rfl (XS.iconst X0.here hx rfl (hb hby d2_16) k)) ?_
    show GoW p.tables e below s _ _ _ _ _ (s₁.setTop (mkF m 17 #[.val (.int (1 : Int32)), .val (.int p2), .val (.int p3), .val (.int p4)] [(.int (1 : Int32)), (.int (1 : Int32))]))
    refine GoW.on (fun t k => XS.icmpNo X0.here hx rfl (hb hby d2_17) rfl (teq (by decide : (1 : Int32) = (1 : Int32))).2 k) ?_
    show GoW p.tables e below s _ _ _ _ _ (s₁.setTop (mkF m 20 #[.val (.int (1 : Int32)), .val (.int p2), .val (.int p3), .val (.int p4)] []))
    obtain ⟨T39, h39, X39, e39, E39, A39, D39, -, st39⟩ := newO X0 hx hZ hown (hw _ (List.mem_of_getElem? (i := 7) rfl)) (hw _ (List.mem_of_getElem? (i := 8) rfl)) (hw _ (List.mem_of_getElem? (i := 9) rfl)) e0 (g := (mkF m 20 #[.val (.int (1 : Int32)), .val (.int p2), .val (.int p3), .val (.int p4)] [])) rfl (hb hby d2_20) (by decide) (by decide)
    obtain ⟨b39, g39⟩ : ∃ z, z = h0.size := ⟨_, rfl⟩
    rw [← g39] at A39 D39 st39
    have Sf40 : Safe Z own_EL s.vm h0 b39 := Safe.new (Nat.le_of_eq g39.symm)
    have ge41 : n0 ≤ b39 := Nat.le_trans Z0 (Nat.le_of_eq g39.symm)
    have sz42 : h0.size ≤ b39 := Nat.le_trans (Keep.refl h0 []).1 (Nat.le_of_eq g39.symm)
    have Sf43 := Safe.ext E39 Ch0.1 Sf40
    have Ch44 := Ch0.trans (CHr.ext E39 Ch0.1)
    have hk45 := Nat.le_trans hk0 E39.1
    have Old0_46 := Old0.ext E39
    have Zp47 := Nat.le_trans Z0 E39.1
    have Kp48 := (Keep.refl h0 []).ext E39
    have Fvalue_49 : Fld Z h39 b39 "java/lang/String" "value" "[B" .null := D39 (Or.inr (hw _ (List.mem_of_getElem? (i := 23) rfl))) (ty := (.array .byte)) (by decide)
    have Fcoder_50 : Fld Z h39 b39 "java/lang/String" "coder" "B" (.int (0 : Int32)) := D39 (Or.inr (hw _ (List.mem_of_getElem? (i := 24) rfl))) (ty := .byte) (by decide)
    refine GoW.on st39 ?_
    show GoW p.tables e below s _ _ _ _ _ (T39.setTop (mkF m 23 #[.val (.int (1 : Int32)), .val (.int p2), .val (.int p3), .val (.int p4)] [(.ref b39)]))
    refine GoW.on (fun t k => XS.dup X39.here hx rfl (hb hby d2_23) rfl rfl (XS.iconst X39.here hx rfl (hb hby d2_24) k)) ?_
    show GoW p.tables e below s _ _ _ _ _ (T39.setTop (mkF m 25 #[.val (.int (1 : Int32)), .val (.int p2), .val (.int p3), .val (.int p4)] [(.int (1 : Int32)), (.ref b39), (.ref b39)]))
    obtain ⟨T51, h51, k51, X51, e51, E51, A51, st51⟩ := newP X39 hx hZ (hw _ (List.mem_of_getElem? (i := 10) rfl)) e39 (g := (mkF m 25 #[.val (.int (1 : Int32)), .val (.int p2), .val (.int p3), .val (.int p4)] [(.int (1 : Int32)), (.ref b39), (.ref b39)])) rfl (hb hby d2_25) rfl (by decide) (cap := 1) (by decide) (by decide) (by decide) (by decide)
    obtain ⟨b51, g51⟩ : ∃ z, z = h39.size := ⟨_, rfl⟩
    rw [← g51] at A51 st51
    have ne52 : b39 ≠ b51 := Nat.ne_of_lt (Nat.lt_of_lt_of_eq A39.lt g51.symm)
    have Sf53 : Safe Z own_EL s.vm h39 b51 := Safe.new (Nat.le_of_eq g51.symm)
    have ge54 : n0 ≤ b51 := Nat.le_trans Zp47 (Nat.le_of_eq g51.symm)
    have sz55 : h0.size ≤ b51 := Nat.le_trans Kp48.1 (Nat.le_of_eq g51.symm)
    have Sf56 := Safe.ext E51 Ch44.1 Sf43
    have Sf57 := Safe.ext E51 Ch44.1 Sf53
    have Ch58 := Ch44.trans (CHr.ext E51 Ch44.1)
    have hk59 := Nat.le_trans hk45 E51.1
    have Old0_60 := Old0_46.ext E51
    have A39_61 := A39.ext E51
    have Fvalue_62 := Fvalue_49.ext E51
    have Fcoder_63 := Fcoder_50.ext E51
    have Zp64 := Nat.le_trans Zp47 E51.1
    have Kp65 := Kp48.ext E51
    have Vb51_66 : Arv Z h51 b51 k51 .char (1 : Int32) [(.int (0 : Int32))] (.int (0 : Int32)) := (Arv.new A51 (by decide)).pad (pad_rep [] (.int (0 : Int32)) 1)
    refine GoW.on st51 ?_
    show GoW p.tables e below s _ _ _ _ _ (T51.setTop (mkF m 27 #[.val (.int (1 : Int32)), .val (.int p2), .val (.int p3), .val (.int p4)] [(.ref b51), (.ref b39), (.ref b39)]))
    refine GoW.on (fun t k => XS.dup X51.here hx rfl (hb hby d2_27) rfl rfl (XS.iconst X51.here hx rfl (hb hby d2_28) (XS.iloadN X51.here hx rfl (hb hby d2_29) rfl k))) ?_
    show GoW p.tables e below s _ _ _ _ _ (T51.setTop (mkF m 30 #[.val (.int (1 : Int32)), .val (.int p2), .val (.int p3), .val (.int p4)] [(.int p2), (.int (0 : Int32)), (.ref b51), (.ref b51), (.ref b39), (.ref b39)]))
    obtain ⟨cl67, Ar67, q67, S67, M67, H67, G67⟩ := id Vb51_66
    have hin67 : ¬ ((0 : Int32) < 0 ∨ cl67.slots.size ≤ ((0 : Int32)).toNatClampNeg) := inb_of S67 ⟨by decide, by decide⟩
    obtain ⟨T67, h67, X67, e67, W67, st67⟩ := stC X51 hx hZ e51 Ar67 (j := (0 : Int32)) hin67 (g := (mkF m 30 #[.val (.int (1 : Int32)), .val (.int p2), .val (.int p3), .val (.int p4)] [(.int p2), (.int (0 : Int32)), (.ref b51), (.ref b51), (.ref b39), (.ref b39)])) rfl rfl (hb hby d2_30)
    rw [own_nc hr2] at W67
    have Vb51_68 : Arv Z h67 b51 k51 .char (1 : Int32) [(.int p2)] (.int (0 : Int32)) := Arv.set Ar67 q67 S67 M67 H67 G67 (own_fc hr2) W67 0 rfl (Nat.le_of_ble_eq_true rfl)
    have Sf69 := Sf57
    have Sf70 := Safe.wr W67 Sf69 Ch58.1 Sf56
    have Sf71 := Safe.wr W67 Sf69 Ch58.1 Sf69
    have Ch72 := Ch58.trans (CHr.wr W67 Sf69 Ch58.1)
    have hk73 := Nat.le_trans hk59 (Keep.of_wr W67).1
    have Old0_74 := Old0_60.wr W67 ge54
    have A39_75 := A39_61.wr W67
    have Fvalue_76 := Fvalue_62.other W67 (Or.inl ne52)
    have Fcoder_77 := Fcoder_63.other W67 (Or.inl ne52)
    have Zp78 := Nat.le_trans Zp64 (Keep.of_wr W67).1
    have Kp79 := Kp65.wr W67 (Or.inr sz55)
    have Np80 := Fr.snoc X67 N0 ge54
    refine GoW.on st67 ?_
    show GoW p.tables e below s _ _ _ _ _ (T67.setTop (mkF m 31 #[.val (.int (1 : Int32)), .val (.int p2), .val (.int p3), .val (.int p4)] [(.ref b51), (.ref b39), (.ref b39)]))
    have hp81 : ∀ c ∈ ([p2] : List Int32), ¬ c < 0 ∧ ¬ (255 : Int32) < c := by
      intro c hc
      simp only [List.mem_cons, List.not_mem_nil, or_false] at hc
      skip
      rw [hc]; exact hr2
    obtain ⟨_, _, ⟨T81, L81, k81, n81⟩, -, X81, ⟨Lc81, hQ81, l81, y81, z81⟩, st81⟩ := X67.specialBack hx (y := (⟨"java/lang/String", "<init>", "([C)V"⟩ : MethodName)) rfl hown (mvT hZ (hw _ (List.mem_of_getElem? (i := 11) rfl))) (mvT hZ (hw _ (List.mem_of_getElem? (i := 12) rfl))) (mvT hZ (hw _ (List.mem_of_getElem? (i := 13) rfl))) (by decide) (StrChars.Road.backV (W := 1) hZ hws (kI := 4) (hw _ (List.mem_of_getElem? (i := 8) rfl)) (cs := ([p2] : List Int32)) (bs := ([p2] : List Int32).map (fun c => c.toInt8.toInt32)) (n := 1) ge41 Zp78 A39_75 Fvalue_76 Fcoder_77 Vb51_68 (O2.ext Old0_74.2) P5 rfl rfl (by decide) (by decide) hp81 rfl (by decide) (by decide)) (g := (mkF m 31 #[.val (.int (1 : Int32)), .val (.int p2), .val (.int p3), .val (.int p4)] [(.ref b51), (.ref b39), (.ref b39)])) rfl (by rw [hml]; rfl) (Steps.refl _) (a := b39) (argsL := [(.ref b51)]) (rest := [(.ref b39)]) (lenOf pd__40__91_C_41_V rfl) rfl (by show 2 * 0 + _ ≤ _; exact Nat.le_of_eq rfl) (hb hby d2_31) (fun _ _ => ⟨rfl, e67, (by decide : ((0 + 1) + 1) + 1 ≤ _), (by decide : ((0 + 4) + 1) + 1 ≤ _)⟩)
    dsimp only [Pt.U, Pt.locs, Pt.cells, Pt.slots] at X81 l81 y81 z81 st81 hQ81
    rw [l81, y81, z81] at X81
    obtain ⟨rfl, Nq81, Kq81, Ex81, Fc81, t81, kb81, gt81, sz81, nt81, Fv81, Kv81⟩ := hQ81
    have Sf82 := Safe.keep Kq81 (sfS Sf70 sf0) Ch72.1 Sf70
    have Sf83 := Safe.keep Kq81 (sfS Sf70 sf0) Ch72.1 Sf71
    have Ch84 := Ch72.trans (CHr.keep Kq81 (sfS Sf70 sf0) Ch72.1)
    have hk85 := Nat.le_trans hk73 Kq81.1
    have Old0_86 := Old0_74.keep Kq81 (allS ge41 all0)
    have A39_87 := A39_75.keep Kq81
    have Vb51_88 := Vb51_68.keep Kq81 (ninS (Ne.symm ne52) nin0)
    have Zp89 := Nat.le_trans Zp78 Kq81.1
    have Kp90 := Kp79.trans Kq81 (allS (Or.inr sz42) all0)
    have ne91 : b51 ≠ t81 := Nat.ne_of_lt (Nat.lt_of_lt_of_le Vb51_68.lt sz81)
    have sz92 := Nat.le_trans Kp79.1 sz81
    have Np93 := Fr.app Np80 Nq81
    refine GoW.via st81 ?_
    show GoW p.tables e below s _ _ _ _ _ (T81.setTop (mkF m 34 #[.val (.int (1 : Int32)), .val (.int p2), .val (.int p3), .val (.int p4)] [(.ref b39)]))
    refine GoW.retA X81 hx hlk hZ hS0 hk85 hEL Ch84 (v := (.ref b39)) rfl Bd.returns rfl (hb hby d2_34) (by decide) (by decide) rfl ?_
    have TxE : Txt Z T81.heap b39 (([p2, p3, p4] : List Int32).take 1) := ⟨hp81, Nat.le_of_ble_eq_true rfl, A39_87, Fc81, t81, kb81, Fv81, Kv81⟩
    exact ⟨b39, rfl, Np93, Kp90, TxE⟩
  · show GoW p.tables e below s _ _ _ _ _ (s₁.setTop (mkF m 0 #[.val (.int (2 : Int32)), .val (.int p2), .val (.int p3), .val (.int p4)] []))
    refine GoW.on (fun t k => XS.iloadN X0.here hx rfl (hb hby d2_0) rfl k) ?_
    show GoW p.tables e below s _ _ _ _ _ (s₁.setTop (mkF m 1 #[.val (.int (2 : Int32)), .val (.int p2), .val (.int p3), .val (.int p4)] [(.int (2 : Int32))]))
    refine GoW.on (fun t k => XS.ifYes X0.here hx rfl (pc0 := 1) (pc' := 15) rfl (hb hby d2_1) rfl ((if0 _ _).trans (feq (by decide : ¬ ((2 : Int32) = (0 : Int32)))).2) (by decide) (by decide) k) ?_
    show GoW p.tables e below s _ _ _ _ _ (s₁.setTop (mkF m 15 #[.val (.int (2 : Int32)), .val (.int p2), .val (.int p3), .val (.int p4)] []))
    refine GoW.on (fun t k => XS.iloadN X0.here hx rfl (hb hby d2_15) rfl (XS.iconst X0.here hx rfl (hb hby d2_16) k)) ?_
    show GoW p.tables e below s _ _ _ _ _ (s₁.setTop (mkF m 17 #[.val (.int (2 : Int32)), .val (.int p2), .val (.int p3), .val (.int p4)] [(.int (1 : Int32)), (.int (2 : Int32))]))
    refine GoW.on (fun t k => XS.icmpYes X0.here hx rfl (pc0 := 17) (pc' := 35) rfl (hb hby d2_17) rfl (feq (by decide : ¬ ((2 : Int32) = (1 : Int32)))).2 (by decide) (by decide) k) ?_
    show GoW p.tables e below s _ _ _ _ _ (s₁.setTop (mkF m 35 #[.val (.int (2 : Int32)), .val (.int p2), .val (.int p3), .val (.int p4)] []))
    refine GoW.on (fun t k => XS.iloadN X0.here hx rfl (hb hby d2_35) rfl (XS.iconst X0.here hx rfl (hb hby d2_36) k)) ?_
    show GoW p.tables e below s _ _ _ _ _ (s₁.setTop (mkF m 37 #[.val (.int (2 : Int32)), .val (.int p2), .val (.int p3), .val (.int p4)] [(.int (2 : Int32)), (.int (2 : Int32))]))
    refine GoW.on (fun t k => XS.icmpNo X0.here hx rfl (hb hby d2_37) rfl (teq (by decide : (2 : Int32) = (2 : Int32))).2 k) ?_
    show GoW p.tables e below s _ _ _ _ _ (s₁.setTop (mkF m 40 #[.val (.int (2 : Int32)), .val (.int p2), .val (.int p3), .val (.int p4)] []))
    obtain ⟨T94, h94, X94, e94, E94, A94, D94, -, st94⟩ := newO X0 hx hZ hown (hw _ (List.mem_of_getElem? (i := 7) rfl)) (hw _ (List.mem_of_getElem? (i := 8) rfl)) (hw _ (List.mem_of_getElem? (i := 9) rfl)) e0 (g := (mkF m 40 #[.val (.int (2 : Int32)), .val (.int p2), .val (.int p3), .val (.int p4)] [])) rfl (hb hby d2_40) (by decide) (by decide)
    obtain ⟨b94, g94⟩ : ∃ z, z = h0.size := ⟨_, rfl⟩
    rw [← g94] at A94 D94 st94
    have Sf95 : Safe Z own_EL s.vm h0 b94 := Safe.new (Nat.le_of_eq g94.symm)
    have ge96 : n0 ≤ b94 := Nat.le_trans Z0 (Nat.le_of_eq g94.symm)
    have sz97 : h0.size ≤ b94 := Nat.le_trans (Keep.refl h0 []).1 (Nat.le_of_eq g94.symm)
    have Sf98 := Safe.ext E94 Ch0.1 Sf95
    have Ch99 := Ch0.trans (CHr.ext E94 Ch0.1)
    have hk100 := Nat.le_trans hk0 E94.1
    have Old0_101 := Old0.ext E94
    have Zp102 := Nat.le_trans Z0 E94.1
    have Kp103 := (Keep.refl h0 []).ext E94
    have Fvalue_104 : Fld Z h94 b94 "java/lang/String" "value" "[B" .null := D94 (Or.inr (hw _ (List.mem_of_getElem? (i := 23) rfl))) (ty := (.array .byte)) (by decide)
    have Fcoder_105 : Fld Z h94 b94 "java/lang/String" "coder" "B" (.int (0 : Int32)) := D94 (Or.inr (hw _ (List.mem_of_getElem? (i := 24) rfl))) (ty := .byte) (by decide)
    refine GoW.on st94 ?_
    show GoW p.tables e below s _ _ _ _ _ (T94.setTop (mkF m 43 #[.val (.int (2 : Int32)), .val (.int p2), .val (.int p3), .val (.int p4)] [(.ref b94)]))
    refine GoW.on (fun t k => XS.dup X94.here hx rfl (hb hby d2_43) rfl rfl (XS.iconst X94.here hx rfl (hb hby d2_44) k)) ?_
    show GoW p.tables e below s _ _ _ _ _ (T94.setTop (mkF m 45 #[.val (.int (2 : Int32)), .val (.int p2), .val (.int p3), .val (.int p4)] [(.int (2 : Int32)), (.ref b94), (.ref b94)]))
    obtain ⟨T106, h106, k106, X106, e106, E106, A106, st106⟩ := newP X94 hx hZ (hw _ (List.mem_of_getElem? (i := 10) rfl)) e94 (g := (mkF m 45 #[.val (.int (2 : Int32)), .val (.int p2), .val (.int p3), .val (.int p4)] [(.int (2 : Int32)), (.ref b94), (.ref b94)])) rfl (hb hby d2_45) rfl (by decide) (cap := 2) (by decide) (by decide) (by decide) (by decide)
    obtain ⟨b106, g106⟩ : ∃ z, z = h94.size := ⟨_, rfl⟩
    rw [← g106] at A106 st106
    have ne107 : b94 ≠ b106 := Nat.ne_of_lt (Nat.lt_of_lt_of_eq A94.lt g106.symm)
    have Sf108 : Safe Z own_EL s.vm h94 b106 := Safe.new (Nat.le_of_eq g106.symm)
    have ge109 : n0 ≤ b106 := Nat.le_trans Zp102 (Nat.le_of_eq g106.symm)
    have sz110 : h0.size ≤ b106 := Nat.le_trans Kp103.1 (Nat.le_of_eq g106.symm)
    have Sf111 := Safe.ext E106 Ch99.1 Sf98
    have Sf112 := Safe.ext E106 Ch99.1 Sf108
    have Ch113 := Ch99.trans (CHr.ext E106 Ch99.1)
    have hk114 := Nat.le_trans hk100 E106.1
    have Old0_115 := Old0_101.ext E106
    have A94_116 := A94.ext E106
    have Fvalue_117 := Fvalue_104.ext E106
    have Fcoder_118 := Fcoder_105.ext E106
    have Zp119 := Nat.le_trans Zp102 E106.1
    have Kp120 := Kp103.ext E106
    have Vb106_121 : Arv Z h106 b106 k106 .char (2 : Int32) [(.int (0 : Int32)), (.int (0 : Int32))] (.int (0 : Int32)) := (Arv.new A106 (by decide)).pad (pad_rep [] (.int (0 : Int32)) 2)
    refine GoW.on st106 ?_
    show GoW p.tables e below s _ _ _ _ _ (T106.setTop (mkF m 47 #[.val (.int (2 : Int32)), .val (.int p2), .val (.int p3), .val (.int p4)] [(.ref b106), (.ref b94), (.ref b94)]))
    refine GoW.on (fun t k => XS.dup X106.here hx rfl (hb hby d2_47) rfl rfl (XS.iconst X106.here hx rfl (hb hby d2_48) (XS.iloadN X106.here hx rfl (hb hby d2_49) rfl k))) ?_
    show GoW p.tables e below s _ _ _ _ _ (T106.setTop (mkF m 50 #[.val (.int (2 : Int32)), .val (.int p2), .val (.int p3), .val (.int p4)] [(.int p2), (.int (0 : Int32)), (.ref b106), (.ref b106), (.ref b94), (.ref b94)]))
    obtain ⟨cl122, Ar122, q122, S122, M122, H122, G122⟩ := id Vb106_121
    have hin122 : ¬ ((0 : Int32) < 0 ∨ cl122.slots.size ≤ ((0 : Int32)).toNatClampNeg) := inb_of S122 ⟨by decide, by decide⟩
    obtain ⟨T122, h122, X122, e122, W122, st122⟩ := stC X106 hx hZ e106 Ar122 (j := (0 : Int32)) hin122 (g := (mkF m 50 #[.val (.int (2 : Int32)), .val (.int p2), .val (.int p3), .val (.int p4)] [(.int p2), (.int (0 : Int32)), (.ref b106), (.ref b106), (.ref b94), (.ref b94)])) rfl rfl (hb hby d2_50)
    rw [own_nc hr2] at W122
    have Vb106_123 : Arv Z h122 b106 k106 .char (2 : Int32) [(.int p2), (.int (0 : Int32))] (.int (0 : Int32)) := Arv.set Ar122 q122 S122 M122 H122 G122 (own_fc hr2) W122 0 rfl (Nat.le_of_ble_eq_true rfl)
    have Sf124 := Sf112
    have Sf125 := Safe.wr W122 Sf124 Ch113.1 Sf111
    have Sf126 := Safe.wr W122 Sf124 Ch113.1 Sf124
    have Ch127 := Ch113.trans (CHr.wr W122 Sf124 Ch113.1)
    have hk128 := Nat.le_trans hk114 (Keep.of_wr W122).1
    have Old0_129 := Old0_115.wr W122 ge109
    have A94_130 := A94_116.wr W122
    have Fvalue_131 := Fvalue_117.other W122 (Or.inl ne107)
    have Fcoder_132 := Fcoder_118.other W122 (Or.inl ne107)
    have Zp133 := Nat.le_trans Zp119 (Keep.of_wr W122).1
    have Kp134 := Kp120.wr W122 (Or.inr sz110)
    have Np135 := Fr.snoc X122 N0 ge109
    refine GoW.on st122 ?_
    show GoW p.tables e below s _ _ _ _ _ (T122.setTop (mkF m 51 #[.val (.int (2 : Int32)), .val (.int p2), .val (.int p3), .val (.int p4)] [(.ref b106), (.ref b94), (.ref b94)]))
    refine GoW.on (fun t k => XS.dup X122.here hx rfl (hb hby d2_51) rfl rfl (XS.iconst X122.here hx rfl (hb hby d2_52) (XS.iloadN X122.here hx rfl (hb hby d2_53) rfl k))) ?_
    show GoW p.tables e below s _ _ _ _ _ (T122.setTop (mkF m 54 #[.val (.int (2 : Int32)), .val (.int p2), .val (.int p3), .val (.int p4)] [(.int p3), (.int (1 : Int32)), (.ref b106), (.ref b106), (.ref b94), (.ref b94)]))
    obtain ⟨cl136, Ar136, q136, S136, M136, H136, G136⟩ := id Vb106_123
    have hin136 : ¬ ((1 : Int32) < 0 ∨ cl136.slots.size ≤ ((1 : Int32)).toNatClampNeg) := inb_of S136 ⟨by decide, by decide⟩
    obtain ⟨T136, h136, X136, e136, W136, st136⟩ := stC X122 hx hZ e122 Ar136 (j := (1 : Int32)) hin136 (g := (mkF m 54 #[.val (.int (2 : Int32)), .val (.int p2), .val (.int p3), .val (.int p4)] [(.int p3), (.int (1 : Int32)), (.ref b106), (.ref b106), (.ref b94), (.ref b94)])) rfl rfl (hb hby d2_54)
    rw [own_nc hr3] at W136
    have Vb106_137 : Arv Z h136 b106 k106 .char (2 : Int32) [(.int p2), (.int p3)] (.int (0 : Int32)) := Arv.set Ar136 q136 S136 M136 H136 G136 (own_fc hr3) W136 1 rfl (Nat.le_of_ble_eq_true rfl)
    have Sf138 := Sf126
    have Sf139 := Safe.wr W136 Sf138 Ch127.1 Sf125
    have Sf140 := Safe.wr W136 Sf138 Ch127.1 Sf138
    have Ch141 := Ch127.trans (CHr.wr W136 Sf138 Ch127.1)
    have hk142 := Nat.le_trans hk128 (Keep.of_wr W136).1
    have Old0_143 := Old0_129.wr W136 ge109
    have A94_144 := A94_130.wr W136
    have Fvalue_145 := Fvalue_131.other W136 (Or.inl ne107)
    have Fcoder_146 := Fcoder_132.other W136 (Or.inl ne107)
    have Zp147 := Nat.le_trans Zp133 (Keep.of_wr W136).1
    have Kp148 := Kp134.wr W136 (Or.inr sz110)
    have Np149 := Fr.snoc X136 Np135 ge109
    refine GoW.on st136 ?_
    show GoW p.tables e below s _ _ _ _ _ (T136.setTop (mkF m 55 #[.val (.int (2 : Int32)), .val (.int p2), .val (.int p3), .val (.int p4)] [(.ref b106), (.ref b94), (.ref b94)]))
    have hp150 : ∀ c ∈ ([p2, p3] : List Int32), ¬ c < 0 ∧ ¬ (255 : Int32) < c := by
      intro c hc
      simp only [List.mem_cons, List.not_mem_nil, or_false] at hc
      rcases hc with hc | hc
      · rw [hc]; exact hr2
      · rw [hc]; exact hr3
    obtain ⟨_, _, ⟨T150, L150, k150, n150⟩, -, X150, ⟨Lc150, hQ150, l150, y150, z150⟩, st150⟩ := X136.specialBack hx (y := (⟨"java/lang/String", "<init>", "([C)V"⟩ : MethodName)) rfl hown (mvT hZ (hw _ (List.mem_of_getElem? (i := 11) rfl))) (mvT hZ (hw _ (List.mem_of_getElem? (i := 12) rfl))) (mvT hZ (hw _ (List.mem_of_getElem? (i := 13) rfl))) (by decide) (StrChars.Road.backV (W := 1) hZ hws (kI := 4) (hw _ (List.mem_of_getElem? (i := 8) rfl)) (cs := ([p2, p3] : List Int32)) (bs := ([p2, p3] : List Int32).map (fun c => c.toInt8.toInt32)) (n := 2) ge96 Zp147 A94_144 Fvalue_145 Fcoder_146 Vb106_137 (O2.ext Old0_143.2) P5 rfl rfl (by decide) (by decide) hp150 rfl (by decide) (by decide)) (g := (mkF m 55 #[.val (.int (2 : Int32)), .val (.int p2), .val (.int p3), .val (.int p4)] [(.ref b106), (.ref b94), (.ref b94)])) rfl (by rw [hml]; rfl) (Steps.refl _) (a := b94) (argsL := [(.ref b106)]) (rest := [(.ref b94)]) (lenOf pd__40__91_C_41_V rfl) rfl (by show 2 * 0 + _ ≤ _; exact Nat.le_of_eq rfl) (hb hby d2_55) (fun _ _ => ⟨rfl, e136, (by decide : ((0 + 1) + 1) + 1 ≤ _), (by decide : ((0 + 4) + 2) + 2 ≤ _)⟩)
    dsimp only [Pt.U, Pt.locs, Pt.cells, Pt.slots] at X150 l150 y150 z150 st150 hQ150
    rw [l150, y150, z150] at X150
    obtain ⟨rfl, Nq150, Kq150, Ex150, Fc150, t150, kb150, gt150, sz150, nt150, Fv150, Kv150⟩ := hQ150
    have Sf151 := Safe.keep Kq150 (sfS Sf139 sf0) Ch141.1 Sf139
    have Sf152 := Safe.keep Kq150 (sfS Sf139 sf0) Ch141.1 Sf140
    have Ch153 := Ch141.trans (CHr.keep Kq150 (sfS Sf139 sf0) Ch141.1)
    have hk154 := Nat.le_trans hk142 Kq150.1
    have Old0_155 := Old0_143.keep Kq150 (allS ge96 all0)
    have A94_156 := A94_144.keep Kq150
    have Vb106_157 := Vb106_137.keep Kq150 (ninS (Ne.symm ne107) nin0)
    have Zp158 := Nat.le_trans Zp147 Kq150.1
    have Kp159 := Kp148.trans Kq150 (allS (Or.inr sz97) all0)
    have ne160 : b106 ≠ t150 := Nat.ne_of_lt (Nat.lt_of_lt_of_le Vb106_137.lt sz150)
    have sz161 := Nat.le_trans Kp148.1 sz150
    have Np162 := Fr.app Np149 Nq150
    refine GoW.via st150 ?_
    show GoW p.tables e below s _ _ _ _ _ (T150.setTop (mkF m 58 #[.val (.int (2 : Int32)), .val (.int p2), .val (.int p3), .val (.int p4)] [(.ref b94)]))
    refine GoW.retA X150 hx hlk hZ hS0 hk154 hEL Ch153 (v := (.ref b94)) rfl Bd.returns rfl (hb hby d2_58) (by decide) (by decide) rfl ?_
    have TxE : Txt Z T150.heap b94 (([p2, p3, p4] : List Int32).take 2) := ⟨hp150, Nat.le_of_ble_eq_true rfl, A94_156, Fc150, t150, kb150, Fv150, Kv150⟩
    exact ⟨b94, rfl, Np162, Kp159, TxE⟩
  · show GoW p.tables e below s _ _ _ _ _ (s₁.setTop (mkF m 0 #[.val (.int (3 : Int32)), .val (.int p2), .val (.int p3), .val (.int p4)] []))
    refine GoW.on (fun t k => XS.iloadN X0.here hx rfl (hb hby d2_0) rfl k) ?_
    show GoW p.tables e below s _ _ _ _ _ (s₁.setTop (mkF m 1 #[.val (.int (3 : Int32)), .val (.int p2), .val (.int p3), .val (.int p4)] [(.int (3 : Int32))]))
    refine GoW.on (fun t k => XS.ifYes X0.here hx rfl (pc0 := 1) (pc' := 15) rfl (hb hby d2_1) rfl ((if0 _ _).trans (feq (by decide : ¬ ((3 : Int32) = (0 : Int32)))).2) (by decide) (by decide) k) ?_
    show GoW p.tables e below s _ _ _ _ _ (s₁.setTop (mkF m 15 #[.val (.int (3 : Int32)), .val (.int p2), .val (.int p3), .val (.int p4)] []))
    refine GoW.on (fun t k => XS.iloadN X0.here hx rfl (hb hby d2_15) rfl (XS.iconst X0.here hx rfl (hb hby d2_16) k)) ?_
    show GoW p.tables e below s _ _ _ _ _ (s₁.setTop (mkF m 17 #[.val (.int (3 : Int32)), .val (.int p2), .val (.int p3), .val (.int p4)] [(.int (1 : Int32)), (.int (3 : Int32))]))
    refine GoW.on (fun t k => XS.icmpYes X0.here hx rfl (pc0 := 17) (pc' := 35) rfl (hb hby d2_17) rfl (feq (by decide : ¬ ((3 : Int32) = (1 : Int32)))).2 (by decide) (by decide) k) ?_
    show GoW p.tables e below s _ _ _ _ _ (s₁.setTop (mkF m 35 #[.val (.int (3 : Int32)), .val (.int p2), .val (.int p3), .val (.int p4)] []))
    refine GoW.on (fun t k => XS.iloadN X0.here hx rfl (hb hby d2_35) rfl (XS.iconst X0.here hx rfl (hb hby d2_36) k)) ?_
    show GoW p.tables e below s _ _ _ _ _ (s₁.setTop (mkF m 37 #[.val (.int (3 : Int32)), .val (.int p2), .val (.int p3), .val (.int p4)] [(.int (2 : Int32)), (.int (3 : Int32))]))
    refine GoW.on (fun t k => XS.icmpYes X0.here hx rfl (pc0 := 37) (pc' := 59) rfl (hb hby d2_37) rfl (feq (by decide : ¬ ((3 : Int32) = (2 : Int32)))).2 (by decide) (by decide) k) ?_
    show GoW p.tables e below s _ _ _ _ _ (s₁.setTop (mkF m 59 #[.val (.int (3 : Int32)), .val (.int p2), .val (.int p3), .val (.int p4)] []))
    obtain ⟨T163, h163, X163, e163, E163, A163, D163, -, st163⟩ := newO X0 hx hZ hown (hw _ (List.mem_of_getElem? (i := 7) rfl)) (hw _ (List.mem_of_getElem? (i := 8) rfl)) (hw _ (List.mem_of_getElem? (i := 9) rfl)) e0 (g := (mkF m 59 #[.val (.int (3 : Int32)), .val (.int p2), .val (.int p3), .val (.int p4)] [])) rfl (hb hby d2_59) (by decide) (by decide)
    obtain ⟨b163, g163⟩ : ∃ z, z = h0.size := ⟨_, rfl⟩
    rw [← g163] at A163 D163 st163
    have Sf164 : Safe Z own_EL s.vm h0 b163 := Safe.new (Nat.le_of_eq g163.symm)
    have ge165 : n0 ≤ b163 := Nat.le_trans Z0 (Nat.le_of_eq g163.symm)
    have sz166 : h0.size ≤ b163 := Nat.le_trans (Keep.refl h0 []).1 (Nat.le_of_eq g163.symm)
    have Sf167 := Safe.ext E163 Ch0.1 Sf164
    have Ch168 := Ch0.trans (CHr.ext E163 Ch0.1)
    have hk169 := Nat.le_trans hk0 E163.1
    have Old0_170 := Old0.ext E163
    have Zp171 := Nat.le_trans Z0 E163.1
    have Kp172 := (Keep.refl h0 []).ext E163
    have Fvalue_173 : Fld Z h163 b163 "java/lang/String" "value" "[B" .null := D163 (Or.inr (hw _ (List.mem_of_getElem? (i := 23) rfl))) (ty := (.array .byte)) (by decide)
    have Fcoder_174 : Fld Z h163 b163 "java/lang/String" "coder" "B" (.int (0 : Int32)) := D163 (Or.inr (hw _ (List.mem_of_getElem? (i := 24) rfl))) (ty := .byte) (by decide)
    refine GoW.on st163 ?_
    show GoW p.tables e below s _ _ _ _ _ (T163.setTop (mkF m 62 #[.val (.int (3 : Int32)), .val (.int p2), .val (.int p3), .val (.int p4)] [(.ref b163)]))
    refine GoW.on (fun t k => XS.dup X163.here hx rfl (hb hby d2_62) rfl rfl (XS.iconst X163.here hx rfl (hb hby d2_63) k)) ?_
    show GoW p.tables e below s _ _ _ _ _ (T163.setTop (mkF m 64 #[.val (.int (3 : Int32)), .val (.int p2), .val (.int p3), .val (.int p4)] [(.int (3 : Int32)), (.ref b163), (.ref b163)]))
    obtain ⟨T175, h175, k175, X175, e175, E175, A175, st175⟩ := newP X163 hx hZ (hw _ (List.mem_of_getElem? (i := 10) rfl)) e163 (g := (mkF m 64 #[.val (.int (3 : Int32)), .val (.int p2), .val (.int p3), .val (.int p4)] [(.int (3 : Int32)), (.ref b163), (.ref b163)])) rfl (hb hby d2_64) rfl (by decide) (cap := 3) (by decide) (by decide) (by decide) (by decide)
    obtain ⟨b175, g175⟩ : ∃ z, z = h163.size := ⟨_, rfl⟩
    rw [← g175] at A175 st175
    have ne176 : b163 ≠ b175 := Nat.ne_of_lt (Nat.lt_of_lt_of_eq A163.lt g175.symm)
    have Sf177 : Safe Z own_EL s.vm h163 b175 := Safe.new (Nat.le_of_eq g175.symm)
    have ge178 : n0 ≤ b175 := Nat.le_trans Zp171 (Nat.le_of_eq g175.symm)
    have sz179 : h0.size ≤ b175 := Nat.le_trans Kp172.1 (Nat.le_of_eq g175.symm)
    have Sf180 := Safe.ext E175 Ch168.1 Sf167
    have Sf181 := Safe.ext E175 Ch168.1 Sf177
    have Ch182 := Ch168.trans (CHr.ext E175 Ch168.1)
    have hk183 := Nat.le_trans hk169 E175.1
    have Old0_184 := Old0_170.ext E175
    have A163_185 := A163.ext E175
    have Fvalue_186 := Fvalue_173.ext E175
    have Fcoder_187 := Fcoder_174.ext E175
    have Zp188 := Nat.le_trans Zp171 E175.1
    have Kp189 := Kp172.ext E175
    have Vb175_190 : Arv Z h175 b175 k175 .char (3 : Int32) [(.int (0 : Int32)), (.int (0 : Int32)), (.int (0 : Int32))] (.int (0 : Int32)) := (Arv.new A175 (by decide)).pad (pad_rep [] (.int (0 : Int32)) 3)
    refine GoW.on st175 ?_
    show GoW p.tables e below s _ _ _ _ _ (T175.setTop (mkF m 66 #[.val (.int (3 : Int32)), .val (.int p2), .val (.int p3), .val (.int p4)] [(.ref b175), (.ref b163), (.ref b163)]))
    refine GoW.on (fun t k => XS.dup X175.here hx rfl (hb hby d2_66) rfl rfl (XS.iconst X175.here hx rfl (hb hby d2_67) (XS.iloadN X175.here hx rfl (hb hby d2_68) rfl k))) ?_
    show GoW p.tables e below s _ _ _ _ _ (T175.setTop (mkF m 69 #[.val (.int (3 : Int32)), .val (.int p2), .val (.int p3), .val (.int p4)] [(.int p2), (.int (0 : Int32)), (.ref b175), (.ref b175), (.ref b163), (.ref b163)]))
    obtain ⟨cl191, Ar191, q191, S191, M191, H191, G191⟩ := id Vb175_190
    have hin191 : ¬ ((0 : Int32) < 0 ∨ cl191.slots.size ≤ ((0 : Int32)).toNatClampNeg) := inb_of S191 ⟨by decide, by decide⟩
    obtain ⟨T191, h191, X191, e191, W191, st191⟩ := stC X175 hx hZ e175 Ar191 (j := (0 : Int32)) hin191 (g := (mkF m 69 #[.val (.int (3 : Int32)), .val (.int p2), .val (.int p3), .val (.int p4)] [(.int p2), (.int (0 : Int32)), (.ref b175), (.ref b175), (.ref b163), (.ref b163)])) rfl rfl (hb hby d2_69)
    rw [own_nc hr2] at W191
    have Vb175_192 : Arv Z h191 b175 k175 .char (3 : Int32) [(.int p2), (.int (0 : Int32)), (.int (0 : Int32))] (.int (0 : Int32)) := Arv.set Ar191 q191 S191 M191 H191 G191 (own_fc hr2) W191 0 rfl (Nat.le_of_ble_eq_true rfl)
    have Sf193 := Sf181
    have Sf194 := Safe.wr W191 Sf193 Ch182.1 Sf180
    have Sf195 := Safe.wr W191 Sf193 Ch182.1 Sf193
    have Ch196 := Ch182.trans (CHr.wr W191 Sf193 Ch182.1)
    have hk197 := Nat.le_trans hk183 (Keep.of_wr W191).1
    have Old0_198 := Old0_184.wr W191 ge178
    have A163_199 := A163_185.wr W191
    have Fvalue_200 := Fvalue_186.other W191 (Or.inl ne176)
    have Fcoder_201 := Fcoder_187.other W191 (Or.inl ne176)
    have Zp202 := Nat.le_trans Zp188 (Keep.of_wr W191).1
    have Kp203 := Kp189.wr W191 (Or.inr sz179)
    have Np204 := Fr.snoc X191 N0 ge178
    refine GoW.on st191 ?_
    show GoW p.tables e below s _ _ _ _ _ (T191.setTop (mkF m 70 #[.val (.int (3 : Int32)), .val (.int p2), .val (.int p3), .val (.int p4)] [(.ref b175), (.ref b163), (.ref b163)]))
    refine GoW.on (fun t k => XS.dup X191.here hx rfl (hb hby d2_70) rfl rfl (XS.iconst X191.here hx rfl (hb hby d2_71) (XS.iloadN X191.here hx rfl (hb hby d2_72) rfl k))) ?_
    show GoW p.tables e below s _ _ _ _ _ (T191.setTop (mkF m 73 #[.val (.int (3 : Int32)), .val (.int p2), .val (.int p3), .val (.int p4)] [(.int p3), (.int (1 : Int32)), (.ref b175), (.ref b175), (.ref b163), (.ref b163)]))
    obtain ⟨cl205, Ar205, q205, S205, M205, H205, G205⟩ := id Vb175_192
    have hin205 : ¬ ((1 : Int32) < 0 ∨ cl205.slots.size ≤ ((1 : Int32)).toNatClampNeg) := inb_of S205 ⟨by decide, by decide⟩
    obtain ⟨T205, h205, X205, e205, W205, st205⟩ := stC X191 hx hZ e191 Ar205 (j := (1 : Int32)) hin205 (g := (mkF m 73 #[.val (.int (3 : Int32)), .val (.int p2), .val (.int p3), .val (.int p4)] [(.int p3), (.int (1 : Int32)), (.ref b175), (.ref b175), (.ref b163), (.ref b163)])) rfl rfl (hb hby d2_73)
    rw [own_nc hr3] at W205
    have Vb175_206 : Arv Z h205 b175 k175 .char (3 : Int32) [(.int p2), (.int p3), (.int (0 : Int32))] (.int (0 : Int32)) := Arv.set Ar205 q205 S205 M205 H205 G205 (own_fc hr3) W205 1 rfl (Nat.le_of_ble_eq_true rfl)
    have Sf207 := Sf195
    have Sf208 := Safe.wr W205 Sf207 Ch196.1 Sf194
    have Sf209 := Safe.wr W205 Sf207 Ch196.1 Sf207
    have Ch210 := Ch196.trans (CHr.wr W205 Sf207 Ch196.1)
    have hk211 := Nat.le_trans hk197 (Keep.of_wr W205).1
    have Old0_212 := Old0_198.wr W205 ge178
    have A163_213 := A163_199.wr W205
    have Fvalue_214 := Fvalue_200.other W205 (Or.inl ne176)
    have Fcoder_215 := Fcoder_201.other W205 (Or.inl ne176)
    have Zp216 := Nat.le_trans Zp202 (Keep.of_wr W205).1
    have Kp217 := Kp203.wr W205 (Or.inr sz179)
    have Np218 := Fr.snoc X205 Np204 ge178
    refine GoW.on st205 ?_
    show GoW p.tables e below s _ _ _ _ _ (T205.setTop (mkF m 74 #[.val (.int (3 : Int32)), .val (.int p2), .val (.int p3), .val (.int p4)] [(.ref b175), (.ref b163), (.ref b163)]))
    refine GoW.on (fun t k => XS.dup X205.here hx rfl (hb hby d2_74) rfl rfl (XS.iconst X205.here hx rfl (hb hby d2_75) (XS.iloadN X205.here hx rfl (hb hby d2_76) rfl k))) ?_
    show GoW p.tables e below s _ _ _ _ _ (T205.setTop (mkF m 77 #[.val (.int (3 : Int32)), .val (.int p2), .val (.int p3), .val (.int p4)] [(.int p4), (.int (2 : Int32)), (.ref b175), (.ref b175), (.ref b163), (.ref b163)]))
    obtain ⟨cl219, Ar219, q219, S219, M219, H219, G219⟩ := id Vb175_206
    have hin219 : ¬ ((2 : Int32) < 0 ∨ cl219.slots.size ≤ ((2 : Int32)).toNatClampNeg) := inb_of S219 ⟨by decide, by decide⟩
    obtain ⟨T219, h219, X219, e219, W219, st219⟩ := stC X205 hx hZ e205 Ar219 (j := (2 : Int32)) hin219 (g := (mkF m 77 #[.val (.int (3 : Int32)), .val (.int p2), .val (.int p3), .val (.int p4)] [(.int p4), (.int (2 : Int32)), (.ref b175), (.ref b175), (.ref b163), (.ref b163)])) rfl rfl (hb hby d2_77)
    rw [own_nc hr4] at W219
    have Vb175_220 : Arv Z h219 b175 k175 .char (3 : Int32) [(.int p2), (.int p3), (.int p4)] (.int (0 : Int32)) := Arv.set Ar219 q219 S219 M219 H219 G219 (own_fc hr4) W219 2 rfl (Nat.le_of_ble_eq_true rfl)
    have Sf221 := Sf209
    have Sf222 := Safe.wr W219 Sf221 Ch210.1 Sf208
    have Sf223 := Safe.wr W219 Sf221 Ch210.1 Sf221
    have Ch224 := Ch210.trans (CHr.wr W219 Sf221 Ch210.1)
    have hk225 := Nat.le_trans hk211 (Keep.of_wr W219).1
    have Old0_226 := Old0_212.wr W219 ge178
    have A163_227 := A163_213.wr W219
    have Fvalue_228 := Fvalue_214.other W219 (Or.inl ne176)
    have Fcoder_229 := Fcoder_215.other W219 (Or.inl ne176)
    have Zp230 := Nat.le_trans Zp216 (Keep.of_wr W219).1
    have Kp231 := Kp217.wr W219 (Or.inr sz179)
    have Np232 := Fr.snoc X219 Np218 ge178
    refine GoW.on st219 ?_
    show GoW p.tables e below s _ _ _ _ _ (T219.setTop (mkF m 78 #[.val (.int (3 : Int32)), .val (.int p2), .val (.int p3), .val (.int p4)] [(.ref b175), (.ref b163), (.ref b163)]))
    have hp233 : ∀ c ∈ ([p2, p3, p4] : List Int32), ¬ c < 0 ∧ ¬ (255 : Int32) < c := by
      intro c hc
      simp only [List.mem_cons, List.not_mem_nil, or_false] at hc
      rcases hc with hc | hc | hc
      · rw [hc]; exact hr2
      · rw [hc]; exact hr3
      · rw [hc]; exact hr4
    obtain ⟨_, _, ⟨T233, L233, k233, n233⟩, -, X233, ⟨Lc233, hQ233, l233, y233, z233⟩, st233⟩ := X219.specialBack hx (y := (⟨"java/lang/String", "<init>", "([C)V"⟩ : MethodName)) rfl hown (mvT hZ (hw _ (List.mem_of_getElem? (i := 11) rfl))) (mvT hZ (hw _ (List.mem_of_getElem? (i := 12) rfl))) (mvT hZ (hw _ (List.mem_of_getElem? (i := 13) rfl))) (by decide) (StrChars.Road.backV (W := 1) hZ hws (kI := 4) (hw _ (List.mem_of_getElem? (i := 8) rfl)) (cs := ([p2, p3, p4] : List Int32)) (bs := ([p2, p3, p4] : List Int32).map (fun c => c.toInt8.toInt32)) (n := 3) ge165 Zp230 A163_227 Fvalue_228 Fcoder_229 Vb175_220 (O2.ext Old0_226.2) P5 rfl rfl (by decide) (by decide) hp233 rfl (by decide) (by decide)) (g := (mkF m 78 #[.val (.int (3 : Int32)), .val (.int p2), .val (.int p3), .val (.int p4)] [(.ref b175), (.ref b163), (.ref b163)])) rfl (by rw [hml]; rfl) (Steps.refl _) (a := b163) (argsL := [(.ref b175)]) (rest := [(.ref b163)]) (lenOf pd__40__91_C_41_V rfl) rfl (by show 2 * 0 + _ ≤ _; exact Nat.le_of_eq rfl) (hb hby d2_78) (fun _ _ => ⟨rfl, e219, (by decide : ((0 + 1) + 1) + 1 ≤ _), (by decide : ((0 + 4) + 3) + 3 ≤ _)⟩)
    dsimp only [Pt.U, Pt.locs, Pt.cells, Pt.slots] at X233 l233 y233 z233 st233 hQ233
    rw [l233, y233, z233] at X233
    obtain ⟨rfl, Nq233, Kq233, Ex233, Fc233, t233, kb233, gt233, sz233, nt233, Fv233, Kv233⟩ := hQ233
    have Sf234 := Safe.keep Kq233 (sfS Sf222 sf0) Ch224.1 Sf222
    have Sf235 := Safe.keep Kq233 (sfS Sf222 sf0) Ch224.1 Sf223
    have Ch236 := Ch224.trans (CHr.keep Kq233 (sfS Sf222 sf0) Ch224.1)
    have hk237 := Nat.le_trans hk225 Kq233.1
    have Old0_238 := Old0_226.keep Kq233 (allS ge165 all0)
    have A163_239 := A163_227.keep Kq233
    have Vb175_240 := Vb175_220.keep Kq233 (ninS (Ne.symm ne176) nin0)
    have Zp241 := Nat.le_trans Zp230 Kq233.1
    have Kp242 := Kp231.trans Kq233 (allS (Or.inr sz166) all0)
    have ne243 : b175 ≠ t233 := Nat.ne_of_lt (Nat.lt_of_lt_of_le Vb175_220.lt sz233)
    have sz244 := Nat.le_trans Kp231.1 sz233
    have Np245 := Fr.app Np232 Nq233
    refine GoW.via st233 ?_
    show GoW p.tables e below s _ _ _ _ _ (T233.setTop (mkF m 81 #[.val (.int (3 : Int32)), .val (.int p2), .val (.int p3), .val (.int p4)] [(.ref b163)]))
    refine GoW.retA X233 hx hlk hZ hS0 hk237 hEL Ch236 (v := (.ref b163)) rfl Bd.returns rfl (hb hby d2_81) (by decide) (by decide) rfl ?_
    have TxE : Txt Z T233.heap b163 (([p2, p3, p4] : List Int32).take 3) := ⟨hp233, Nat.le_of_ble_eq_true rfl, A163_239, Fc233, t233, kb233, Fv233, Kv233⟩
    exact ⟨b163, rfl, Np245, Kp242, TxE⟩
theorem own_c67 (x : Int32) : ¬ (((67 : Int32) + (x &&& (3 : Int32))).toUInt32.toUInt16.toUInt32.toInt32) < 0 ∧ ¬ (255 : Int32) < (((67 : Int32) + (x &&& (3 : Int32))).toUInt32.toUInt16.toUInt32.toInt32) := by
  have h1 := c_mask x 3 2 (by decide) (by decide)
  have h2 := c_iadd (67 : Int32) (x &&& (3 : Int32))
  have h3 := c_i2c ((67 : Int32) + (x &&& (3 : Int32)))
  have e0 : (0 : Int32).toInt = 0 := rfl
  have e1 : (255 : Int32).toInt = 255 := rfl
  have e2 : (67 : Int32).toInt = 67 := rfl
  have r1 := Int32.le_toInt ((67 : Int32) + (x &&& (3 : Int32)))
  have r2 := Int32.toInt_lt ((67 : Int32) + (x &&& (3 : Int32)))
  rw [e2] at h2
  simp only [Int32.lt_iff_toInt_lt, e0, e1]
  omega
theorem own_ltn {n k : Nat} (hn : n ≤ 3) (hk : k ≤ 3) : Int32.ofNat n < Int32.ofNat k ↔ n < k := by
  rw [Int32.lt_iff_toInt_lt, Int32.toInt_ofNat_of_lt (by omega), Int32.toInt_ofNat_of_lt (by omega)]; omega
theorem own_tke {n k : Nat} (hn : n ≤ 3) (hk : k ≤ 3) {a b c d e f : Int32} : ([a, b, c] : List Int32).take n = ([d, e, f] : List Int32).take k ↔ (Int32.ofNat n = Int32.ofNat k ∧ (Int32.ofNat n < (1 : Int32) ∨ a = d) ∧ (Int32.ofNat n < (2 : Int32) ∨ b = e) ∧ (Int32.ofNat n < (3 : Int32) ∨ c = f)) := by
  rw [own_num hn hk, show (Int32.ofNat n < (1 : Int32)) = (Int32.ofNat n < Int32.ofNat 1) from rfl, show (Int32.ofNat n < (2 : Int32)) = (Int32.ofNat n < Int32.ofNat 2) from rfl, show (Int32.ofNat n < (3 : Int32)) = (Int32.ofNat n < Int32.ofNat 3) from rfl, own_ltn hn (by omega), own_ltn hn (by omega), own_ltn hn (by omega)]
  have h : n = 0 ∨ n = 1 ∨ n = 2 ∨ n = 3 := by omega
  have h' : k = 0 ∨ k = 1 ∨ k = 2 ∨ k = 3 := by omega
  rcases h with rfl | rfl | rfl | rfl <;> rcases h' with rfl | rfl | rfl | rfl <;> simp

theorem d1_0 : decode method_2_code 0 = .ok (.iload_n 1, 1) := by decide +kernel
theorem d1_1 : decode method_2_code 1 = .ok (.ifCond .eq 13, 3) := by decide +kernel
theorem d1_4 : decode method_2_code 4 = .ok (.bipush 67, 2) := by decide +kernel
theorem d1_6 : decode method_2_code 6 = .ok (.iload_n 0, 1) := by decide +kernel
theorem d1_7 : decode method_2_code 7 = .ok (.iconst 3, 1) := by decide +kernel
theorem d1_8 : decode method_2_code 8 = .ok (.iand, 1) := by decide +kernel
theorem d1_9 : decode method_2_code 9 = .ok (.iadd, 1) := by decide +kernel
theorem d1_10 : decode method_2_code 10 = .ok (.i2c, 1) := by decide +kernel
theorem d1_11 : decode method_2_code 11 = .ok (.goto 9, 3) := by decide +kernel
theorem d1_14 : decode method_2_code 14 = .ok (.iload_n 0, 1) := by decide +kernel
theorem d1_15 : decode method_2_code 15 = .ok (.sipush 255, 3) := by decide +kernel
theorem d1_18 : decode method_2_code 18 = .ok (.iand, 1) := by decide +kernel
theorem d1_19 : decode method_2_code 19 = .ok (.i2c, 1) := by decide +kernel
theorem d1_20 : decode method_2_code 20 = .ok (.ireturn, 1) := by decide +kernel
theorem ef_1 (m : MethodId) (x0 : Int32) (x1 : Int32) : entryFrame m #[(.int x0), (.int x1)] 2 = mkF m 0 #[.val (.int x0), .val (.int x1)] [] := by first | (simp [entryFrame, mkF, argsToLocals, Value.category]; done) | rfl
def Q1 (Z : State) (p1 : Int32) (p2 : Int32) (h0 : Heap) (n0 : Nat) (v : Option Value) (h : Heap) (L : List Loc) : Prop := ∃ (r : Int32), v = some (.int r) ∧ Fr n0 L ∧ h = h0 ∧ ¬ r < 0 ∧ ¬ (255 : Int32) < r
set_option maxRecDepth 65536 in
set_option maxHeartbeats 40000000 in
theorem rm1 (l : Launch) (Z : State) (a0 : Array Value) (hw : ∀ d ∈ tables_1, d.before a0 Z = true) (ws : List Jvm.Cond) (p1 : Int32) (p2 : Int32) (h0 : Heap) (n0 : Nat) (Z0 : n0 ≤ h0.size)  :
    MetFree l (⟨"com/example/rhythmwire/rhythmwire/idc/CommonSegmentsIsReportPinLaw", "ch", "(IZ)C"⟩ : MethodName) (head1 (Jvm.Cond.code (⟨"com/example/rhythmwire/rhythmwire/idc/CommonSegmentsIsReportPinLaw", "ch", "(IZ)C"⟩ : MethodName) method_2_code 2 (some .char) :: ws) ({ frames := 0, cells := 0, slots := 0, locals := 0 } : Room)) (fun a U => a = #[(.int p1), (.int p2)] ∧ Z.Warmed39 U.vm ∧ U.heap = h0) (fun _ _ _ _ _ => True) (fun _ U o U' => ∃ v L, o = .returned v ∧ Q1 Z p1 p2 h0 n0 v U'.heap L ∧ FrameEnd U o U' L ({ frames := 0, cells := 0, slots := 0, locals := 0 } : Room).cells ({ frames := 0, cells := 0, slots := 0, locals := 0 } : Room).slots) := by
  refine MetFree.of_bodySF (plainFor_of_name pn_com_example_rhythmwire_rhythmwire_idc_CommonSegmentsIsReportPinLaw) hisR ?_
  intro p e s m args below meth c s₁ Bd hml0 hP hK
  obtain ⟨rfl, hZ, hh⟩ := hP
  have hx := Bd.exec
  have hby := Bd.bytes
  have hlk : meth.locks = false := BodyLoose.notSynchronized Bd
  have hml : c.maxLocals = 2 := hml0
  have hown : s.vm.findClass "com/example/rhythmwire/rhythmwire/idc/CommonSegmentsIsReportPinLaw" = some m.cls := findClass_of_methodNamed Bd.named
  have hnm := (name_of_methodNamed Bd.named Bd.method).1
  have X0 : Stand p l e ({ frames := 0, cells := 0, slots := 0, locals := 0 } : Room) s m #[(.int p1), (.int p2)] below meth c s₁ [] 0 0 := Stand.of_body Bd
  have e0 : s₁.heap = h0 := by rw [← hh, Bd.state]; rfl
  have N0 := Fr.nil n0
  show Go p.tables e below s (Q1 Z p1 p2 h0 n0) ({ frames := 0, cells := 0, slots := 0, locals := 0 } : Room).cells ({ frames := 0, cells := 0, slots := 0, locals := 0 } : Room).slots (s₁.setTop (entryFrame m #[(.int p1), (.int p2)] 2))
  refine Go.on (fun t k => castTop (ef_1 m p1 p2) k) ?_
  show Go p.tables e below s _ _ _ (s₁.setTop (mkF m 0 #[.val (.int p1), .val (.int p2)] []))
  refine Go.on (fun t k => XS.iloadN X0.here hx rfl (hb hby d1_0) rfl k) ?_
  show Go p.tables e below s _ _ _ (s₁.setTop (mkF m 1 #[.val (.int p1), .val (.int p2)] [(.int p2)]))
  by_cases hc1_1 : p2 = (0 : Int32)
  · refine Go.on (fun t k => XS.ifYes X0.here hx rfl (pc0 := 1) (pc' := 14) rfl (hb hby d1_1) rfl ((if0 _ _).trans (teq hc1_1).1) (by decide) (by decide) k) ?_
    show Go p.tables e below s _ _ _ (s₁.setTop (mkF m 14 #[.val (.int p1), .val (.int p2)] []))
    refine Go.on (fun t k => XS.iloadN X0.here hx rfl (hb hby d1_14) rfl (XS.sipush X0.here hx rfl (hb hby d1_15) (XS.iand X0.here hx rfl (hb hby d1_18) rfl (XS.i2c X0.here hx rfl (hb hby d1_19) rfl k)))) ?_
    show Go p.tables e below s _ _ _ (s₁.setTop (mkF m 20 #[.val (.int p1), .val (.int p2)] [(.int ((p1 &&& (255 : Int32)).toUInt32.toUInt16.toUInt32.toInt32))]))
    refine Go.retN X0 hx hlk (t := .char) Bd.returns (by simp) (hb hby d1_20) (by decide) (by decide) e0 ?_
    exact ⟨_, rfl, N0, rfl, (by rw [own_nc (own_c255 _)]; exact own_c255 _)⟩
  · refine Go.on (fun t k => XS.ifNo X0.here hx rfl (hb hby d1_1) rfl ((if0 _ _).trans (feq hc1_1).1) k) ?_
    show Go p.tables e below s _ _ _ (s₁.setTop (mkF m 4 #[.val (.int p1), .val (.int p2)] []))
    refine Go.on (fun t k => XS.bipush X0.here hx rfl (hb hby d1_4) (XS.iloadN X0.here hx rfl (hb hby d1_6) rfl (XS.iconst X0.here hx rfl (hb hby d1_7) (XS.iand X0.here hx rfl (hb hby d1_8) rfl (XS.iadd X0.here hx rfl (hb hby d1_9) rfl (XS.i2c X0.here hx rfl (hb hby d1_10) rfl (XS.goto X0.here hx rfl (pc0 := 11) (pc' := 20) rfl (hb hby d1_11) (by decide) (by decide) k))))))) ?_
    show Go p.tables e below s _ _ _ (s₁.setTop (mkF m 20 #[.val (.int p1), .val (.int p2)] [(.int (((67 : Int32) + (p1 &&& (3 : Int32))).toUInt32.toUInt16.toUInt32.toInt32))]))
    refine Go.retN X0 hx hlk (t := .char) Bd.returns (by simp) (hb hby d1_20) (by decide) (by decide) e0 ?_
    exact ⟨_, rfl, N0, rfl, (by rw [own_nc (own_c67 _)]; exact own_c67 _)⟩
theorem d7_0 : decode jdk_42_method_66_code 0 = .ok (.aload_n 0, 1) := by decide +kernel
theorem d7_1 : decode jdk_42_method_66_code 1 = .ok (.aload_n 1, 1) := by decide +kernel
theorem d7_2 : decode jdk_42_method_66_code 2 = .ok (.if_acmp .ne 5, 3) := by decide +kernel
theorem d7_5 : decode jdk_42_method_66_code 5 = .ok (.iconst 1, 1) := by decide +kernel
theorem d7_6 : decode jdk_42_method_66_code 6 = .ok (.ireturn, 1) := by decide +kernel
theorem d7_7 : decode jdk_42_method_66_code 7 = .ok (.aload_n 1, 1) := by decide +kernel
theorem d7_8 : decode jdk_42_method_66_code 8 = .ok (.instanceof 10, 3) := by decide +kernel
theorem d7_11 : decode jdk_42_method_66_code 11 = .ok (.ifCond .eq 43, 3) := by decide +kernel
theorem d7_14 : decode jdk_42_method_66_code 14 = .ok (.aload_n 1, 1) := by decide +kernel
theorem d7_15 : decode jdk_42_method_66_code 15 = .ok (.checkcast 10, 3) := by decide +kernel
theorem d7_18 : decode jdk_42_method_66_code 18 = .ok (.astore_n 2, 1) := by decide +kernel
theorem d7_19 : decode jdk_42_method_66_code 19 = .ok (.getstatic 38, 3) := by decide +kernel
theorem d7_22 : decode jdk_42_method_66_code 22 = .ok (.ifCond .eq 14, 3) := by decide +kernel
theorem d7_25 : decode jdk_42_method_66_code 25 = .ok (.aload_n 0, 1) := by decide +kernel
theorem d7_26 : decode jdk_42_method_66_code 26 = .ok (.getfield 15, 3) := by decide +kernel
theorem d7_29 : decode jdk_42_method_66_code 29 = .ok (.aload_n 2, 1) := by decide +kernel
theorem d7_30 : decode jdk_42_method_66_code 30 = .ok (.getfield 15, 3) := by decide +kernel
theorem d7_33 : decode jdk_42_method_66_code 33 = .ok (.if_icmp .ne 21, 3) := by decide +kernel
theorem d7_36 : decode jdk_42_method_66_code 36 = .ok (.aload_n 0, 1) := by decide +kernel
theorem d7_37 : decode jdk_42_method_66_code 37 = .ok (.getfield 9, 3) := by decide +kernel
theorem d7_40 : decode jdk_42_method_66_code 40 = .ok (.aload_n 2, 1) := by decide +kernel
theorem d7_41 : decode jdk_42_method_66_code 41 = .ok (.getfield 9, 3) := by decide +kernel
theorem d7_44 : decode jdk_42_method_66_code 44 = .ok (.invokestatic 541, 3) := by decide +kernel
theorem d7_47 : decode jdk_42_method_66_code 47 = .ok (.ifCond .eq 7, 3) := by decide +kernel
theorem d7_50 : decode jdk_42_method_66_code 50 = .ok (.iconst 1, 1) := by decide +kernel
theorem d7_51 : decode jdk_42_method_66_code 51 = .ok (.goto 4, 3) := by decide +kernel
theorem d7_54 : decode jdk_42_method_66_code 54 = .ok (.iconst 0, 1) := by decide +kernel
theorem d7_55 : decode jdk_42_method_66_code 55 = .ok (.ireturn, 1) := by decide +kernel
theorem ef_7 (m : MethodId) (x0 : Addr) : entryFrame m #[(.ref x0), .null] 3 = mkF m 0 #[.val (.ref x0), .val .null, .unset] [] := by first | (simp [entryFrame, mkF, argsToLocals, Value.category]; done) | rfl
def Q7 (Z : State) (a1 : Addr) (h0 : Heap) (n0 : Nat) (v : Option Value) (h : Heap) (L : List Loc) : Prop := v = some (.int (0 : Int32)) ∧ Fr n0 L ∧ h = h0
set_option maxRecDepth 65536 in
set_option maxHeartbeats 40000000 in
theorem rm7 (l : Launch) (Z : State) (a0 : Array Value) (hw : ∀ d ∈ tables_1, d.before a0 Z = true) (ws : List Jvm.Cond) (a1 : Addr) (h0 : Heap) (n0 : Nat) (Z0 : n0 ≤ h0.size)  :
    MetFree l (⟨"java/lang/String", "equals", "(Ljava/lang/Object;)Z"⟩ : MethodName) (head1 (Jvm.Cond.code (⟨"java/lang/String", "equals", "(Ljava/lang/Object;)Z"⟩ : MethodName) jdk_42_method_66_code 3 (some .boolean) :: ws) ({ frames := 0, cells := 0, slots := 0, locals := 0 } : Room)) (fun a U => a = #[(.ref a1), .null] ∧ Z.Warmed39 U.vm ∧ U.heap = h0) (fun _ _ _ _ _ => True) (fun _ U o U' => ∃ v L, o = .returned v ∧ Q7 Z a1 h0 n0 v U'.heap L ∧ FrameEnd U o U' L ({ frames := 0, cells := 0, slots := 0, locals := 0 } : Room).cells ({ frames := 0, cells := 0, slots := 0, locals := 0 } : Room).slots) := by
  refine MetFree.of_bodySF (plainFor_of_name pn_java_lang_String) hisR ?_
  intro p e s m args below meth c s₁ Bd hml0 hP hK
  obtain ⟨rfl, hZ, hh⟩ := hP
  have hx := Bd.exec
  have hby := Bd.bytes
  have hlk : meth.locks = false := BodyLoose.notSynchronized Bd
  have hml : c.maxLocals = 3 := hml0
  have hown : s.vm.findClass "java/lang/String" = some m.cls := findClass_of_methodNamed Bd.named
  have hnm := (name_of_methodNamed Bd.named Bd.method).1
  have X0 : Stand p l e ({ frames := 0, cells := 0, slots := 0, locals := 0 } : Room) s m #[(.ref a1), .null] below meth c s₁ [] 0 0 := Stand.of_body Bd
  have e0 : s₁.heap = h0 := by rw [← hh, Bd.state]; rfl
  have N0 := Fr.nil n0
  show Go p.tables e below s (Q7 Z a1 h0 n0) ({ frames := 0, cells := 0, slots := 0, locals := 0 } : Room).cells ({ frames := 0, cells := 0, slots := 0, locals := 0 } : Room).slots (s₁.setTop (entryFrame m #[(.ref a1), .null] 3))
  refine Go.on (fun t k => castTop (ef_7 m a1) k) ?_
  show Go p.tables e below s _ _ _ (s₁.setTop (mkF m 0 #[.val (.ref a1), .val .null, .unset] []))
  refine Go.on (fun t k => XS.aloadN X0.here hx rfl (hb hby d7_0) rfl rfl (XS.aloadN X0.here hx rfl (hb hby d7_1) rfl rfl k)) ?_
  show Go p.tables e below s _ _ _ (s₁.setTop (mkF m 2 #[.val (.ref a1), .val .null, .unset] [.null, (.ref a1)]))
  refine Go.on (fun t k => Jvm.RoadKit.acmp (g := (mkF m 2 #[.val (.ref a1), .val .null, .unset] [.null, (.ref a1)])) X0 hx rfl rfl rfl (pc0 := 2) (pc' := 7) (same := false) rfl (hb hby d7_2) rfl (decide_eq_false nofun) (by decide) (by decide) k) ?_
  show Go p.tables e below s _ _ _ (s₁.setTop (mkF m 7 #[.val (.ref a1), .val .null, .unset] []))
  refine Go.on (fun t k => XS.aloadN X0.here hx rfl (hb hby d7_7) rfl rfl k) ?_
  show Go p.tables e below s _ _ _ (s₁.setTop (mkF m 8 #[.val (.ref a1), .val .null, .unset] [.null]))
  refine Go.on (fun t k => X0.instanceofNull hx (g := (mkF m 8 #[.val (.ref a1), .val .null, .unset] [.null])) rfl rfl (hb hby d7_8) t k) ?_
  show Go p.tables e below s _ _ _ (s₁.setTop (mkF m 11 #[.val (.ref a1), .val .null, .unset] [(.int (0 : Int32))]))
  refine Go.on (fun t k => XS.ifYes X0.here hx rfl (pc0 := 11) (pc' := 54) rfl (hb hby d7_11) rfl ((if0 _ _).trans (teq (by decide : (0 : Int32) = (0 : Int32))).1) (by decide) (by decide) k) ?_
  show Go p.tables e below s _ _ _ (s₁.setTop (mkF m 54 #[.val (.ref a1), .val .null, .unset] []))
  refine Go.on (fun t k => XS.iconst X0.here hx rfl (hb hby d7_54) k) ?_
  show Go p.tables e below s _ _ _ (s₁.setTop (mkF m 55 #[.val (.ref a1), .val .null, .unset] [(.int (0 : Int32))]))
  refine Go.retN X0 hx hlk (t := .boolean) Bd.returns (by simp) (hb hby d7_55) (by decide) (by decide) e0 ?_
  exact ⟨rfl, N0, rfl⟩
theorem d6_0 : decode prog_29_method_7_code 0 = .ok (.ldc 138, 2) := by decide +kernel
theorem d6_2 : decode prog_29_method_7_code 2 = .ok (.aload_n 0, 1) := by decide +kernel
theorem d6_3 : decode prog_29_method_7_code 3 = .ok (.invokevirtual 140, 3) := by decide +kernel
theorem d6_6 : decode prog_29_method_7_code 6 = .ok (.ifCond .eq 15, 3) := by decide +kernel
theorem d6_9 : decode prog_29_method_7_code 9 = .ok (.aload_n 2, 1) := by decide +kernel
theorem d6_10 : decode prog_29_method_7_code 10 = .ok (.aload_n 1, 1) := by decide +kernel
theorem d6_11 : decode prog_29_method_7_code 11 = .ok (.invokevirtual 140, 3) := by decide +kernel
theorem d6_14 : decode prog_29_method_7_code 14 = .ok (.ifCond .eq 7, 3) := by decide +kernel
theorem d6_17 : decode prog_29_method_7_code 17 = .ok (.iconst 1, 1) := by decide +kernel
theorem d6_18 : decode prog_29_method_7_code 18 = .ok (.goto 4, 3) := by decide +kernel
theorem d6_21 : decode prog_29_method_7_code 21 = .ok (.iconst 0, 1) := by decide +kernel
theorem d6_22 : decode prog_29_method_7_code 22 = .ok (.ireturn, 1) := by decide +kernel
theorem ef_6nn (m : MethodId) (x2 : Addr) : entryFrame m #[.null, .null, (.ref x2)] 3 = mkF m 0 #[.val .null, .val .null, .val (.ref x2)] [] := by first | (simp [entryFrame, mkF, argsToLocals, Value.category]; done) | rfl
def Q6nn (Z : State) (a3 : Addr) (G1 : Int32) (h0 : Heap) (n0 : Nat) (v : Option Value) (h : Heap) (L : List Loc) : Prop := v = some (.int (0 : Int32)) ∧ Fr n0 L ∧ Keep h0 h []
theorem pn_com_example_rhythmwire_rhythmwire_idc_CommonSegments : plainName "com/example/rhythmwire/rhythmwire/idc/CommonSegments" = true := by first | (simp [plainName, overriddenIn]; done) | decide +kernel
set_option maxRecDepth 65536 in
set_option maxHeartbeats 40000000 in
theorem rm6nn (l : Launch) (Z : State) (a0 : Array Value) (hw : ∀ d ∈ tables_1, d.before a0 Z = true) (ws : List Jvm.Cond) (a3 : Addr) (G1 : Int32) (h0 : Heap) (n0 : Nat) (Z0 : n0 ≤ h0.size) (Old0 : Old Z n0 h0) (O2 : Sta Z Z.heap "java/lang/String" "COMPACT_STRINGS" "Z" (.int G1)) (P5 : ¬ (G1 = (0 : Int32))) :
    MetFree l (⟨"com/example/rhythmwire/rhythmwire/idc/CommonSegments", "isReport", "(Ljava/lang/String;Ljava/lang/String;Ljava/lang/String;)Z"⟩ : MethodName) (head1 (Jvm.Cond.code (⟨"com/example/rhythmwire/rhythmwire/idc/CommonSegments", "isReport", "(Ljava/lang/String;Ljava/lang/String;Ljava/lang/String;)Z"⟩ : MethodName) prog_29_method_7_code 3 (some .boolean) :: ws) ({ frames := 2, cells := 2, slots := 12, locals := 28 } : Room)) (fun a U => a = #[.null, .null, (.ref a3)] ∧ Z.Warmed39 U.vm ∧ U.heap = h0 ∧ CHv Z own_EL U.vm h0) (fun _ _ _ _ _ => True) (fun _ U o U' => ∃ v L, o = .returned v ∧ Q6nn Z a3 G1 h0 n0 v U'.heap L ∧ CHr Z own_EL U.vm U.heap U'.vm U'.heap ∧ ReturnedEndW U o U' L ({ frames := 2, cells := 2, slots := 12, locals := 28 } : Room).cells ({ frames := 2, cells := 2, slots := 12, locals := 28 } : Room).slots) := by
  refine MetFree.of_bodySF (plainFor_of_name pn_com_example_rhythmwire_rhythmwire_idc_CommonSegments) hisR ?_
  intro p e s m args below meth c s₁ Bd hml0 hP hK
  obtain ⟨rfl, hZz, hh, H0⟩ := hP
  have hZ : Z.Warmed39 (s.setVm s.vm).vm := hZz
  have hx := Bd.exec
  have hby := Bd.bytes
  have hlk : meth.locks = false := BodyLoose.notSynchronized Bd
  have hml : c.maxLocals = 3 := hml0
  have hown : (s.setVm s.vm).vm.findClass "com/example/rhythmwire/rhythmwire/idc/CommonSegments" = some m.cls := findClass_of_methodNamed Bd.named
  have hnm := (name_of_methodNamed Bd.named Bd.method).1
  have X0 : Stand p l e ({ frames := 2, cells := 2, slots := 12, locals := 28 } : Room) (s.setVm s.vm) m #[.null, .null, (.ref a3)] below meth c s₁ [] 0 0 := Stand.of_body Bd
  have e0 : s₁.heap = h0 := by rw [← hh, Bd.state]; rfl
  have N0 := Fr.nil n0
  have hEL := own_EW hw
  have own_wSh := own_wS hw
  have hS0 : s.Since s.vm 0 := (State.WarmedH.refl s).since 0
  have hk0 : 0 ≤ h0.size := Nat.zero_le _
  have Ch0 : CHr Z own_EL s.vm s.heap s.vm h0 := by rw [hh]; exact CHr.refl H0
  show GoW p.tables e below s (Q6nn Z a3 G1 h0 n0) Z own_EL ({ frames := 2, cells := 2, slots := 12, locals := 28 } : Room).cells ({ frames := 2, cells := 2, slots := 12, locals := 28 } : Room).slots (s₁.setTop (entryFrame m #[.null, .null, (.ref a3)] 3))
  refine GoW.on (fun t k => castTop (ef_6nn m a3) k) ?_
  show GoW p.tables e below s _ _ _ _ _ (s₁.setTop (mkF m 0 #[.val .null, .val .null, .val (.ref a3)] []))
  have heqw := own_we hw
  obtain ⟨ad1, T1, h1, j1, bd1, k1, X1, e1, E1, hS1, hk1, hZ1, hown1, Ex1, Fc1, Fv1, Av1, la1, lb1, C1, Lt1, Ne1, st1⟩ := ldcCH X0 hx hZ hown (hw _ (List.mem_of_getElem? (i := 33) rfl)) own_wSh e0 hS0 hk0 hEL (by decide : ("com/example/rhythmwire/rhythmwire/idc/CommonSegments", 138) ∈ own_EL) Ch0.1 (vs := (([69, 68] : List Int32).map (fun c => c.toInt8.toInt32)).map Value.int) (z := (2 : Int32)) ⟨by decide, by decide⟩ (by decide) (by decide) (g := (mkF m 0 #[.val .null, .val .null, .val (.ref a3)] [])) rfl (hb hby d6_0) (n := 8) (by decide) (by decide) (by decide) (by decide)
  have Ch2 := Ch0.trans C1
  have Old0_3 := Old0.ext E1
  have Zp4 := Nat.le_trans Z0 E1.1
  have Kp5 := (Keep.refl h0 []).ext E1
  have Tx1 : Txt Z h1 ad1 ([69, 68] : List Int32) := ⟨by decide, by decide, Ex1, Fc1, bd1, k1, Fv1, Av1⟩
  refine GoW.on st1 ?_
  show GoW p.tables e below s _ _ _ _ _ (T1.setTop (mkF m 2 #[.val .null, .val .null, .val (.ref a3)] [(.ref ad1)]))
  refine GoW.on (fun t k => XS.aloadN X1.here hx rfl (hb hby d6_2) rfl rfl k) ?_
  show GoW p.tables e below s _ _ _ _ _ (T1.setTop (mkF m 3 #[.val .null, .val .null, .val (.ref a3)] [.null, (.ref ad1)]))
  obtain ⟨cq6, kq6, q6a, q6b, q6c⟩ := isOf hZ1 e1 Ex1
  obtain ⟨_, _, ⟨T6, L6, k6, n6⟩, -, X6, ⟨Lc6, hQ6, l6, y6, z6⟩, st6⟩ := X1.virtualBack hx (y := (⟨"java/lang/String", "equals", "(Ljava/lang/Object;)Z"⟩ : MethodName)) (z := (⟨"java/lang/String", "equals", "(Ljava/lang/Object;)Z"⟩ : MethodName)) hown1 (mvT hZ1 (hw _ (List.mem_of_getElem? (i := 34) rfl))) (mvT hZ1 (hw _ (List.mem_of_getElem? (i := 35) rfl))) (notFace_of_selects (args := #[]) (mvT hZ1 (hw _ (List.mem_of_getElem? (i := 37) rfl)))) (mvT hZ1 (hw _ (List.mem_of_getElem? (i := 37) rfl))) (mvT hZ1 (hw _ (List.mem_of_getElem? (i := 36) rfl))) (by decide) (backOf (W := 0) (rm7 l Z a0 hw [] ad1 h1 n0 Zp4 ) hZ1 (hw _ (List.mem_of_getElem? (i := 38) rfl)) (hw _ (List.mem_of_getElem? (i := 9) rfl)) (by decide) (by decide)) q6a q6c (g := (mkF m 3 #[.val .null, .val .null, .val (.ref a3)] [.null, (.ref ad1)])) rfl (by rw [hml]; rfl) (Steps.refl _) (argsL := [.null]) (rest := []) (lenOf pd__40_Ljava_47_lang_47_Object_59__41_Z rfl) rfl (by show 2 * 0 + _ ≤ _; exact Nat.le_of_eq rfl) (hb hby d6_3) (fun _ _ => ⟨rfl, e1, (by decide : (0 + 2) + 0 ≤ _), (by decide : (0 + (8 + 4)) + 0 ≤ _)⟩)
  dsimp only [Pt.U, Pt.locs, Pt.cells, Pt.slots] at X6 l6 y6 z6 st6 hQ6
  rw [l6, y6, z6] at X6
  obtain ⟨rfl, Nq6, e6⟩ := hQ6
  have Np7 := Fr.app N0 Nq6
  refine GoW.via st6 ?_
  show GoW p.tables e below s _ _ _ _ _ (T6.setTop (mkF m 6 #[.val .null, .val .null, .val (.ref a3)] [(.int (0 : Int32))]))
  refine GoW.on (fun t k => XS.ifYes X6.here hx rfl (pc0 := 6) (pc' := 21) rfl (hb hby d6_6) rfl ((if0 _ _).trans (teq (by decide : (0 : Int32) = (0 : Int32))).1) (by decide) (by decide) k) ?_
  show GoW p.tables e below s _ _ _ _ _ (T6.setTop (mkF m 21 #[.val .null, .val .null, .val (.ref a3)] []))
  refine GoW.on (fun t k => XS.iconst X6.here hx rfl (hb hby d6_21) k) ?_
  show GoW p.tables e below s _ _ _ _ _ (T6.setTop (mkF m 22 #[.val .null, .val .null, .val (.ref a3)] [(.int (0 : Int32))]))
  refine GoW.retN X6 hx hlk hZ1 hS1 hk1 hEL Ch2 (t := .boolean) Bd.returns (by simp) (hb hby d6_22) (by decide) (by decide) e6 ?_
  exact ⟨rfl, Np7, Kp5⟩
theorem ef_6nr (m : MethodId) (x1 : Addr) (x2 : Addr) : entryFrame m #[.null, (.ref x1), (.ref x2)] 3 = mkF m 0 #[.val .null, .val (.ref x1), .val (.ref x2)] [] := by first | (simp [entryFrame, mkF, argsToLocals, Value.category]; done) | rfl
def Q6nr (Z : State) (a2 : Addr) (a3 : Addr) (G1 : Int32) (h0 : Heap) (n0 : Nat) (v : Option Value) (h : Heap) (L : List Loc) : Prop := v = some (.int (0 : Int32)) ∧ Fr n0 L ∧ Keep h0 h []
set_option maxRecDepth 65536 in
set_option maxHeartbeats 40000000 in
theorem rm6nr (l : Launch) (Z : State) (a0 : Array Value) (hw : ∀ d ∈ tables_1, d.before a0 Z = true) (ws : List Jvm.Cond) (a2 : Addr) (a3 : Addr) (G1 : Int32) (h0 : Heap) (n0 : Nat) (Z0 : n0 ≤ h0.size) (Old0 : Old Z n0 h0) (O2 : Sta Z Z.heap "java/lang/String" "COMPACT_STRINGS" "Z" (.int G1)) (P5 : ¬ (G1 = (0 : Int32))) :
    MetFree l (⟨"com/example/rhythmwire/rhythmwire/idc/CommonSegments", "isReport", "(Ljava/lang/String;Ljava/lang/String;Ljava/lang/String;)Z"⟩ : MethodName) (head1 (Jvm.Cond.code (⟨"com/example/rhythmwire/rhythmwire/idc/CommonSegments", "isReport", "(Ljava/lang/String;Ljava/lang/String;Ljava/lang/String;)Z"⟩ : MethodName) prog_29_method_7_code 3 (some .boolean) :: ws) ({ frames := 2, cells := 2, slots := 12, locals := 28 } : Room)) (fun a U => a = #[.null, (.ref a2), (.ref a3)] ∧ Z.Warmed39 U.vm ∧ U.heap = h0 ∧ CHv Z own_EL U.vm h0) (fun _ _ _ _ _ => True) (fun _ U o U' => ∃ v L, o = .returned v ∧ Q6nr Z a2 a3 G1 h0 n0 v U'.heap L ∧ CHr Z own_EL U.vm U.heap U'.vm U'.heap ∧ ReturnedEndW U o U' L ({ frames := 2, cells := 2, slots := 12, locals := 28 } : Room).cells ({ frames := 2, cells := 2, slots := 12, locals := 28 } : Room).slots) := by
  refine MetFree.of_bodySF (plainFor_of_name pn_com_example_rhythmwire_rhythmwire_idc_CommonSegments) hisR ?_
  intro p e s m args below meth c s₁ Bd hml0 hP hK
  obtain ⟨rfl, hZz, hh, H0⟩ := hP
  have hZ : Z.Warmed39 (s.setVm s.vm).vm := hZz
  have hx := Bd.exec
  have hby := Bd.bytes
  have hlk : meth.locks = false := BodyLoose.notSynchronized Bd
  have hml : c.maxLocals = 3 := hml0
  have hown : (s.setVm s.vm).vm.findClass "com/example/rhythmwire/rhythmwire/idc/CommonSegments" = some m.cls := findClass_of_methodNamed Bd.named
  have hnm := (name_of_methodNamed Bd.named Bd.method).1
  have X0 : Stand p l e ({ frames := 2, cells := 2, slots := 12, locals := 28 } : Room) (s.setVm s.vm) m #[.null, (.ref a2), (.ref a3)] below meth c s₁ [] 0 0 := Stand.of_body Bd
  have e0 : s₁.heap = h0 := by rw [← hh, Bd.state]; rfl
  have N0 := Fr.nil n0
  have hEL := own_EW hw
  have own_wSh := own_wS hw
  have hS0 : s.Since s.vm 0 := (State.WarmedH.refl s).since 0
  have hk0 : 0 ≤ h0.size := Nat.zero_le _
  have Ch0 : CHr Z own_EL s.vm s.heap s.vm h0 := by rw [hh]; exact CHr.refl H0
  show GoW p.tables e below s (Q6nr Z a2 a3 G1 h0 n0) Z own_EL ({ frames := 2, cells := 2, slots := 12, locals := 28 } : Room).cells ({ frames := 2, cells := 2, slots := 12, locals := 28 } : Room).slots (s₁.setTop (entryFrame m #[.null, (.ref a2), (.ref a3)] 3))
  refine GoW.on (fun t k => castTop (ef_6nr m a2 a3) k) ?_
  show GoW p.tables e below s _ _ _ _ _ (s₁.setTop (mkF m 0 #[.val .null, .val (.ref a2), .val (.ref a3)] []))
  have heqw := own_we hw
  obtain ⟨ad1, T1, h1, j1, bd1, k1, X1, e1, E1, hS1, hk1, hZ1, hown1, Ex1, Fc1, Fv1, Av1, la1, lb1, C1, Lt1, Ne1, st1⟩ := ldcCH X0 hx hZ hown (hw _ (List.mem_of_getElem? (i := 33) rfl)) own_wSh e0 hS0 hk0 hEL (by decide : ("com/example/rhythmwire/rhythmwire/idc/CommonSegments", 138) ∈ own_EL) Ch0.1 (vs := (([69, 68] : List Int32).map (fun c => c.toInt8.toInt32)).map Value.int) (z := (2 : Int32)) ⟨by decide, by decide⟩ (by decide) (by decide) (g := (mkF m 0 #[.val .null, .val (.ref a2), .val (.ref a3)] [])) rfl (hb hby d6_0) (n := 8) (by decide) (by decide) (by decide) (by decide)
  have Ch2 := Ch0.trans C1
  have Old0_3 := Old0.ext E1
  have Zp4 := Nat.le_trans Z0 E1.1
  have Kp5 := (Keep.refl h0 []).ext E1
  have Tx1 : Txt Z h1 ad1 ([69, 68] : List Int32) := ⟨by decide, by decide, Ex1, Fc1, bd1, k1, Fv1, Av1⟩
  refine GoW.on st1 ?_
  show GoW p.tables e below s _ _ _ _ _ (T1.setTop (mkF m 2 #[.val .null, .val (.ref a2), .val (.ref a3)] [(.ref ad1)]))
  refine GoW.on (fun t k => XS.aloadN X1.here hx rfl (hb hby d6_2) rfl rfl k) ?_
  show GoW p.tables e below s _ _ _ _ _ (T1.setTop (mkF m 3 #[.val .null, .val (.ref a2), .val (.ref a3)] [.null, (.ref ad1)]))
  obtain ⟨cq6, kq6, q6a, q6b, q6c⟩ := isOf hZ1 e1 Ex1
  obtain ⟨_, _, ⟨T6, L6, k6, n6⟩, -, X6, ⟨Lc6, hQ6, l6, y6, z6⟩, st6⟩ := X1.virtualBack hx (y := (⟨"java/lang/String", "equals", "(Ljava/lang/Object;)Z"⟩ : MethodName)) (z := (⟨"java/lang/String", "equals", "(Ljava/lang/Object;)Z"⟩ : MethodName)) hown1 (mvT hZ1 (hw _ (List.mem_of_getElem? (i := 34) rfl))) (mvT hZ1 (hw _ (List.mem_of_getElem? (i := 35) rfl))) (notFace_of_selects (args := #[]) (mvT hZ1 (hw _ (List.mem_of_getElem? (i := 37) rfl)))) (mvT hZ1 (hw _ (List.mem_of_getElem? (i := 37) rfl))) (mvT hZ1 (hw _ (List.mem_of_getElem? (i := 36) rfl))) (by decide) (backOf (W := 0) (rm7 l Z a0 hw [] ad1 h1 n0 Zp4 ) hZ1 (hw _ (List.mem_of_getElem? (i := 38) rfl)) (hw _ (List.mem_of_getElem? (i := 9) rfl)) (by decide) (by decide)) q6a q6c (g := (mkF m 3 #[.val .null, .val (.ref a2), .val (.ref a3)] [.null, (.ref ad1)])) rfl (by rw [hml]; rfl) (Steps.refl _) (argsL := [.null]) (rest := []) (lenOf pd__40_Ljava_47_lang_47_Object_59__41_Z rfl) rfl (by show 2 * 0 + _ ≤ _; exact Nat.le_of_eq rfl) (hb hby d6_3) (fun _ _ => ⟨rfl, e1, (by decide : (0 + 2) + 0 ≤ _), (by decide : (0 + (8 + 4)) + 0 ≤ _)⟩)
  dsimp only [Pt.U, Pt.locs, Pt.cells, Pt.slots] at X6 l6 y6 z6 st6 hQ6
  rw [l6, y6, z6] at X6
  obtain ⟨rfl, Nq6, e6⟩ := hQ6
  have Np7 := Fr.app N0 Nq6
  refine GoW.via st6 ?_
  show GoW p.tables e below s _ _ _ _ _ (T6.setTop (mkF m 6 #[.val .null, .val (.ref a2), .val (.ref a3)] [(.int (0 : Int32))]))
  refine GoW.on (fun t k => XS.ifYes X6.here hx rfl (pc0 := 6) (pc' := 21) rfl (hb hby d6_6) rfl ((if0 _ _).trans (teq (by decide : (0 : Int32) = (0 : Int32))).1) (by decide) (by decide) k) ?_
  show GoW p.tables e below s _ _ _ _ _ (T6.setTop (mkF m 21 #[.val .null, .val (.ref a2), .val (.ref a3)] []))
  refine GoW.on (fun t k => XS.iconst X6.here hx rfl (hb hby d6_21) k) ?_
  show GoW p.tables e below s _ _ _ _ _ (T6.setTop (mkF m 22 #[.val .null, .val (.ref a2), .val (.ref a3)] [(.int (0 : Int32))]))
  refine GoW.retN X6 hx hlk hZ1 hS1 hk1 hEL Ch2 (t := .boolean) Bd.returns (by simp) (hb hby d6_22) (by decide) (by decide) e6 ?_
  exact ⟨rfl, Np7, Kp5⟩
theorem ef_6rn (m : MethodId) (x0 : Addr) (x2 : Addr) : entryFrame m #[(.ref x0), .null, (.ref x2)] 3 = mkF m 0 #[.val (.ref x0), .val .null, .val (.ref x2)] [] := by first | (simp [entryFrame, mkF, argsToLocals, Value.category]; done) | rfl
def Q6rn (Z : State) (a1 : Addr) (a3 : Addr) (G1 : Int32) (ts : List Int32) (rs : List Int32) (h0 : Heap) (n0 : Nat) (v : Option Value) (h : Heap) (L : List Loc) : Prop := v = some (.int (0 : Int32)) ∧ Fr n0 L ∧ Keep h0 h []
set_option maxRecDepth 65536 in
set_option maxHeartbeats 40000000 in
theorem rm6rn (l : Launch) (Z : State) (a0 : Array Value) (hw : ∀ d ∈ tables_1, d.before a0 Z = true) (ws : List Jvm.Cond) (a1 : Addr) (a3 : Addr) (G1 : Int32) (ts : List Int32) (rs : List Int32) (h0 : Heap) (n0 : Nat) (Z0 : n0 ≤ h0.size) (Old0 : Old Z n0 h0) (O2 : Sta Z Z.heap "java/lang/String" "COMPACT_STRINGS" "Z" (.int G1)) (P5 : ¬ (G1 = (0 : Int32))) (X_a1 : Txt Z h0 a1 ts) (X_a3 : Txt Z h0 a3 rs) :
    MetFree l (⟨"com/example/rhythmwire/rhythmwire/idc/CommonSegments", "isReport", "(Ljava/lang/String;Ljava/lang/String;Ljava/lang/String;)Z"⟩ : MethodName) (head1 (Jvm.Cond.code (⟨"com/example/rhythmwire/rhythmwire/idc/CommonSegments", "isReport", "(Ljava/lang/String;Ljava/lang/String;Ljava/lang/String;)Z"⟩ : MethodName) prog_29_method_7_code 3 (some .boolean) :: ws) ({ frames := 2, cells := 2, slots := 12, locals := 28 } : Room)) (fun a U => a = #[(.ref a1), .null, (.ref a3)] ∧ Z.Warmed39 U.vm ∧ U.heap = h0 ∧ CHv Z own_EL U.vm h0) (fun _ _ _ _ _ => True) (fun _ U o U' => ∃ v L, o = .returned v ∧ Q6rn Z a1 a3 G1 ts rs h0 n0 v U'.heap L ∧ CHr Z own_EL U.vm U.heap U'.vm U'.heap ∧ ReturnedEndW U o U' L ({ frames := 2, cells := 2, slots := 12, locals := 28 } : Room).cells ({ frames := 2, cells := 2, slots := 12, locals := 28 } : Room).slots) := by
  refine MetFree.of_bodySF (plainFor_of_name pn_com_example_rhythmwire_rhythmwire_idc_CommonSegments) hisR ?_
  intro p e s m args below meth c s₁ Bd hml0 hP hK
  obtain ⟨rfl, hZz, hh, H0⟩ := hP
  have hZ : Z.Warmed39 (s.setVm s.vm).vm := hZz
  have hx := Bd.exec
  have hby := Bd.bytes
  have hlk : meth.locks = false := BodyLoose.notSynchronized Bd
  have hml : c.maxLocals = 3 := hml0
  have hown : (s.setVm s.vm).vm.findClass "com/example/rhythmwire/rhythmwire/idc/CommonSegments" = some m.cls := findClass_of_methodNamed Bd.named
  have hnm := (name_of_methodNamed Bd.named Bd.method).1
  have X0 : Stand p l e ({ frames := 2, cells := 2, slots := 12, locals := 28 } : Room) (s.setVm s.vm) m #[(.ref a1), .null, (.ref a3)] below meth c s₁ [] 0 0 := Stand.of_body Bd
  have e0 : s₁.heap = h0 := by rw [← hh, Bd.state]; rfl
  have N0 := Fr.nil n0
  have hEL := own_EW hw
  have own_wSh := own_wS hw
  have hS0 : s.Since s.vm 0 := (State.WarmedH.refl s).since 0
  have hk0 : 0 ≤ h0.size := Nat.zero_le _
  have Ch0 : CHr Z own_EL s.vm s.heap s.vm h0 := by rw [hh]; exact CHr.refl H0
  show GoW p.tables e below s (Q6rn Z a1 a3 G1 ts rs h0 n0) Z own_EL ({ frames := 2, cells := 2, slots := 12, locals := 28 } : Room).cells ({ frames := 2, cells := 2, slots := 12, locals := 28 } : Room).slots (s₁.setTop (entryFrame m #[(.ref a1), .null, (.ref a3)] 3))
  refine GoW.on (fun t k => castTop (ef_6rn m a1 a3) k) ?_
  show GoW p.tables e below s _ _ _ _ _ (s₁.setTop (mkF m 0 #[.val (.ref a1), .val .null, .val (.ref a3)] []))
  have heqw := own_we hw
  obtain ⟨ad1, T1, h1, j1, bd1, k1, X1, e1, E1, hS1, hk1, hZ1, hown1, Ex1, Fc1, Fv1, Av1, la1, lb1, C1, Lt1, Ne1, st1⟩ := ldcCH X0 hx hZ hown (hw _ (List.mem_of_getElem? (i := 33) rfl)) own_wSh e0 hS0 hk0 hEL (by decide : ("com/example/rhythmwire/rhythmwire/idc/CommonSegments", 138) ∈ own_EL) Ch0.1 (vs := (([69, 68] : List Int32).map (fun c => c.toInt8.toInt32)).map Value.int) (z := (2 : Int32)) ⟨by decide, by decide⟩ (by decide) (by decide) (g := (mkF m 0 #[.val (.ref a1), .val .null, .val (.ref a3)] [])) rfl (hb hby d6_0) (n := 8) (by decide) (by decide) (by decide) (by decide)
  have Ch2 := Ch0.trans C1
  have Old0_3 := Old0.ext E1
  have X_a1_4 := X_a1.ext E1
  have X_a3_5 := X_a3.ext E1
  have Zp6 := Nat.le_trans Z0 E1.1
  have Kp7 := (Keep.refl h0 []).ext E1
  have Tx1 : Txt Z h1 ad1 ([69, 68] : List Int32) := ⟨by decide, by decide, Ex1, Fc1, bd1, k1, Fv1, Av1⟩
  refine GoW.on st1 ?_
  show GoW p.tables e below s _ _ _ _ _ (T1.setTop (mkF m 2 #[.val (.ref a1), .val .null, .val (.ref a3)] [(.ref ad1)]))
  refine GoW.on (fun t k => XS.aloadN X1.here hx rfl (hb hby d6_2) rfl rfl k) ?_
  show GoW p.tables e below s _ _ _ _ _ (T1.setTop (mkF m 3 #[.val (.ref a1), .val .null, .val (.ref a3)] [(.ref a1), (.ref ad1)]))
  have Exr := X_a3.2.2.1
  obtain ⟨p1_8, p2_8, p3_8, p4_8, pt_8, pk_8, p5_8, p6_8⟩ := id Tx1
  have pc_8 : StrChars.Road.CodA ([69, 68] : List Int32) 0 (Int32.ofNat (([69, 68] : List Int32)).length) (((([69, 68] : List Int32)).map (fun c => c.toInt8.toInt32)).map Value.int) := StrChars.Road.codOf (n := (([69, 68] : List Int32)).length) rfl (fun c hc => (p1_8 c hc).2)
  have pb_8 := own_up ([69, 68] : List Int32) p1_8
  obtain ⟨q1_8, q2_8, q3_8, q4_8, qt_8, qk_8, q5_8, q6_8⟩ := id X_a1_4
  have qc_8 : StrChars.Road.CodA ts 0 (Int32.ofNat (ts).length) (((ts).map (fun c => c.toInt8.toInt32)).map Value.int) := StrChars.Road.codOf (n := (ts).length) rfl (fun c hc => (q1_8 c hc).2)
  have qb_8 := own_up ts q1_8
  obtain ⟨cq8, kq8, q8a, q8b, q8c⟩ := isOf hZ1 e1 p3_8
  obtain ⟨_, _, ⟨T8, L8, k8, n8⟩, -, X8, ⟨Lc8, hQ8, l8, y8, z8⟩, st8⟩ := X1.virtualBack hx (y := (⟨"java/lang/String", "equals", "(Ljava/lang/Object;)Z"⟩ : MethodName)) (z := (⟨"java/lang/String", "equals", "(Ljava/lang/Object;)Z"⟩ : MethodName)) hown1 (mvT hZ1 (hw _ (List.mem_of_getElem? (i := 34) rfl))) (mvT hZ1 (hw _ (List.mem_of_getElem? (i := 35) rfl))) (notFace_of_selects (args := #[]) (mvT hZ1 (hw _ (List.mem_of_getElem? (i := 37) rfl)))) (mvT hZ1 (hw _ (List.mem_of_getElem? (i := 37) rfl))) (mvT hZ1 (hw _ (List.mem_of_getElem? (i := 36) rfl))) (by decide) (StrChars.Road.eqW (W := 0) hZ1 heqw (kI := 4) (hw _ (List.mem_of_getElem? (i := 8) rfl)) p3_8 p5_8 p4_8 p6_8 pc_8 pb_8 p2_8 q3_8 q5_8 q4_8 q6_8 qc_8 qb_8 q2_8 (O2.ext Old0_3.2) P5 (by decide) (by decide)) q8a q8c (g := (mkF m 3 #[.val (.ref a1), .val .null, .val (.ref a3)] [(.ref a1), (.ref ad1)])) rfl (by rw [hml]; rfl) (Steps.refl _) (argsL := [(.ref a1)]) (rest := []) (lenOf pd__40_Ljava_47_lang_47_Object_59__41_Z rfl) rfl (by show 2 * 0 + _ ≤ _; exact Nat.le_of_eq rfl) (hb hby d6_3) (fun _ _ => ⟨rfl, e1, (by decide : (0 + 2) + 0 ≤ _), (by decide : (0 + (8 + 4)) + 0 ≤ _)⟩)
  dsimp only [Pt.U, Pt.locs, Pt.cells, Pt.slots] at X8 l8 y8 z8 st8 hQ8
  rw [l8, y8, z8] at X8
  obtain ⟨hor8, rfl, e8⟩ := hQ8
  have Np9 := Fr.app N0 (Fr.nil n0)
  rcases hor8 with ⟨rfl, hEq8⟩ | ⟨rfl, hNe8⟩
  · refine GoW.via st8 ?_
    show GoW p.tables e below s _ _ _ _ _ (T8.setTop (mkF m 6 #[.val (.ref a1), .val .null, .val (.ref a3)] [(.int (1 : Int32))]))
    refine GoW.on (fun t k => XS.ifNo X8.here hx rfl (hb hby d6_6) rfl ((if0 _ _).trans (feq (by decide : ¬ ((1 : Int32) = (0 : Int32)))).1) k) ?_
    show GoW p.tables e below s _ _ _ _ _ (T8.setTop (mkF m 9 #[.val (.ref a1), .val .null, .val (.ref a3)] []))
    refine GoW.on (fun t k => XS.aloadN X8.here hx rfl (hb hby d6_9) rfl rfl (XS.aloadN X8.here hx rfl (hb hby d6_10) rfl rfl k)) ?_
    show GoW p.tables e below s _ _ _ _ _ (T8.setTop (mkF m 11 #[.val (.ref a1), .val .null, .val (.ref a3)] [.null, (.ref a3)]))
    have Ex_10 : Exa Z h1 a3 "java/lang/String" := X_a3_5.2.2.1
    obtain ⟨cq11, kq11, q11a, q11b, q11c⟩ := isOf hZ1 e8 Ex_10
    obtain ⟨_, _, ⟨T11, L11, k11, n11⟩, -, X11, ⟨Lc11, hQ11, l11, y11, z11⟩, st11⟩ := X8.virtualBack hx (y := (⟨"java/lang/String", "equals", "(Ljava/lang/Object;)Z"⟩ : MethodName)) (z := (⟨"java/lang/String", "equals", "(Ljava/lang/Object;)Z"⟩ : MethodName)) hown1 (mvT hZ1 (hw _ (List.mem_of_getElem? (i := 34) rfl))) (mvT hZ1 (hw _ (List.mem_of_getElem? (i := 35) rfl))) (notFace_of_selects (args := #[]) (mvT hZ1 (hw _ (List.mem_of_getElem? (i := 37) rfl)))) (mvT hZ1 (hw _ (List.mem_of_getElem? (i := 37) rfl))) (mvT hZ1 (hw _ (List.mem_of_getElem? (i := 36) rfl))) (by decide) (backOf (W := 0) (rm7 l Z a0 hw [] a3 h1 n0 Zp6 ) hZ1 (hw _ (List.mem_of_getElem? (i := 38) rfl)) (hw _ (List.mem_of_getElem? (i := 9) rfl)) (by decide) (by decide)) q11a q11c (g := (mkF m 11 #[.val (.ref a1), .val .null, .val (.ref a3)] [.null, (.ref a3)])) rfl (by rw [hml]; rfl) (Steps.refl _) (argsL := [.null]) (rest := []) (lenOf pd__40_Ljava_47_lang_47_Object_59__41_Z rfl) rfl (by show 2 * 0 + _ ≤ _; exact Nat.le_of_eq rfl) (hb hby d6_11) (fun _ _ => ⟨rfl, e8, (by decide : ((0 + 2) + 0) + 0 ≤ _), (by decide : ((0 + (8 + 4)) + 0) + 0 ≤ _)⟩)
    dsimp only [Pt.U, Pt.locs, Pt.cells, Pt.slots] at X11 l11 y11 z11 st11 hQ11
    rw [l11, y11, z11] at X11
    obtain ⟨rfl, Nq11, e11⟩ := hQ11
    have Np12 := Fr.app Np9 Nq11
    refine GoW.via st11 ?_
    show GoW p.tables e below s _ _ _ _ _ (T11.setTop (mkF m 14 #[.val (.ref a1), .val .null, .val (.ref a3)] [(.int (0 : Int32))]))
    refine GoW.on (fun t k => XS.ifYes X11.here hx rfl (pc0 := 14) (pc' := 21) rfl (hb hby d6_14) rfl ((if0 _ _).trans (teq (by decide : (0 : Int32) = (0 : Int32))).1) (by decide) (by decide) k) ?_
    show GoW p.tables e below s _ _ _ _ _ (T11.setTop (mkF m 21 #[.val (.ref a1), .val .null, .val (.ref a3)] []))
    refine GoW.on (fun t k => XS.iconst X11.here hx rfl (hb hby d6_21) k) ?_
    show GoW p.tables e below s _ _ _ _ _ (T11.setTop (mkF m 22 #[.val (.ref a1), .val .null, .val (.ref a3)] [(.int (0 : Int32))]))
    refine GoW.retN X11 hx hlk hZ1 hS1 hk1 hEL Ch2 (t := .boolean) Bd.returns (by simp) (hb hby d6_22) (by decide) (by decide) e11 ?_
    exact ⟨rfl, Np12, Kp7⟩
  · refine GoW.via st8 ?_
    show GoW p.tables e below s _ _ _ _ _ (T8.setTop (mkF m 6 #[.val (.ref a1), .val .null, .val (.ref a3)] [(.int (0 : Int32))]))
    refine GoW.on (fun t k => XS.ifYes X8.here hx rfl (pc0 := 6) (pc' := 21) rfl (hb hby d6_6) rfl ((if0 _ _).trans (teq (by decide : (0 : Int32) = (0 : Int32))).1) (by decide) (by decide) k) ?_
    show GoW p.tables e below s _ _ _ _ _ (T8.setTop (mkF m 21 #[.val (.ref a1), .val .null, .val (.ref a3)] []))
    refine GoW.on (fun t k => XS.iconst X8.here hx rfl (hb hby d6_21) k) ?_
    show GoW p.tables e below s _ _ _ _ _ (T8.setTop (mkF m 22 #[.val (.ref a1), .val .null, .val (.ref a3)] [(.int (0 : Int32))]))
    refine GoW.retN X8 hx hlk hZ1 hS1 hk1 hEL Ch2 (t := .boolean) Bd.returns (by simp) (hb hby d6_22) (by decide) (by decide) e8 ?_
    exact ⟨rfl, Np9, Kp7⟩
theorem ef_6rr (m : MethodId) (x0 : Addr) (x1 : Addr) (x2 : Addr) : entryFrame m #[(.ref x0), (.ref x1), (.ref x2)] 3 = mkF m 0 #[.val (.ref x0), .val (.ref x1), .val (.ref x2)] [] := by first | (simp [entryFrame, mkF, argsToLocals, Value.category]; done) | rfl
def Q6rr (Z : State) (a1 : Addr) (a2 : Addr) (a3 : Addr) (G1 : Int32) (ts : List Int32) (cs : List Int32) (rs : List Int32) (h0 : Heap) (n0 : Nat) (v : Option Value) (h : Heap) (L : List Loc) : Prop := v = some (.int (own_b (([69, 68] : List Int32) = ts ∧ rs = cs))) ∧ Fr n0 L ∧ Keep h0 h []
set_option maxRecDepth 65536 in
set_option maxHeartbeats 40000000 in
theorem rm6rr (l : Launch) (Z : State) (a0 : Array Value) (hw : ∀ d ∈ tables_1, d.before a0 Z = true) (ws : List Jvm.Cond) (a1 : Addr) (a2 : Addr) (a3 : Addr) (G1 : Int32) (ts : List Int32) (cs : List Int32) (rs : List Int32) (h0 : Heap) (n0 : Nat) (Z0 : n0 ≤ h0.size) (Old0 : Old Z n0 h0) (O2 : Sta Z Z.heap "java/lang/String" "COMPACT_STRINGS" "Z" (.int G1)) (P5 : ¬ (G1 = (0 : Int32))) (X_a1 : Txt Z h0 a1 ts) (X_a2 : Txt Z h0 a2 cs) (X_a3 : Txt Z h0 a3 rs) :
    MetFree l (⟨"com/example/rhythmwire/rhythmwire/idc/CommonSegments", "isReport", "(Ljava/lang/String;Ljava/lang/String;Ljava/lang/String;)Z"⟩ : MethodName) (head1 (Jvm.Cond.code (⟨"com/example/rhythmwire/rhythmwire/idc/CommonSegments", "isReport", "(Ljava/lang/String;Ljava/lang/String;Ljava/lang/String;)Z"⟩ : MethodName) prog_29_method_7_code 3 (some .boolean) :: ws) ({ frames := 2, cells := 2, slots := 12, locals := 28 } : Room)) (fun a U => a = #[(.ref a1), (.ref a2), (.ref a3)] ∧ Z.Warmed39 U.vm ∧ U.heap = h0 ∧ CHv Z own_EL U.vm h0) (fun _ _ _ _ _ => True) (fun _ U o U' => ∃ v L, o = .returned v ∧ Q6rr Z a1 a2 a3 G1 ts cs rs h0 n0 v U'.heap L ∧ CHr Z own_EL U.vm U.heap U'.vm U'.heap ∧ ReturnedEndW U o U' L ({ frames := 2, cells := 2, slots := 12, locals := 28 } : Room).cells ({ frames := 2, cells := 2, slots := 12, locals := 28 } : Room).slots) := by
  refine MetFree.of_bodySF (plainFor_of_name pn_com_example_rhythmwire_rhythmwire_idc_CommonSegments) hisR ?_
  intro p e s m args below meth c s₁ Bd hml0 hP hK
  obtain ⟨rfl, hZz, hh, H0⟩ := hP
  have hZ : Z.Warmed39 (s.setVm s.vm).vm := hZz
  have hx := Bd.exec
  have hby := Bd.bytes
  have hlk : meth.locks = false := BodyLoose.notSynchronized Bd
  have hml : c.maxLocals = 3 := hml0
  have hown : (s.setVm s.vm).vm.findClass "com/example/rhythmwire/rhythmwire/idc/CommonSegments" = some m.cls := findClass_of_methodNamed Bd.named
  have hnm := (name_of_methodNamed Bd.named Bd.method).1
  have X0 : Stand p l e ({ frames := 2, cells := 2, slots := 12, locals := 28 } : Room) (s.setVm s.vm) m #[(.ref a1), (.ref a2), (.ref a3)] below meth c s₁ [] 0 0 := Stand.of_body Bd
  have e0 : s₁.heap = h0 := by rw [← hh, Bd.state]; rfl
  have N0 := Fr.nil n0
  have hEL := own_EW hw
  have own_wSh := own_wS hw
  have hS0 : s.Since s.vm 0 := (State.WarmedH.refl s).since 0
  have hk0 : 0 ≤ h0.size := Nat.zero_le _
  have Ch0 : CHr Z own_EL s.vm s.heap s.vm h0 := by rw [hh]; exact CHr.refl H0
  show GoW p.tables e below s (Q6rr Z a1 a2 a3 G1 ts cs rs h0 n0) Z own_EL ({ frames := 2, cells := 2, slots := 12, locals := 28 } : Room).cells ({ frames := 2, cells := 2, slots := 12, locals := 28 } : Room).slots (s₁.setTop (entryFrame m #[(.ref a1), (.ref a2), (.ref a3)] 3))
  refine GoW.on (fun t k => castTop (ef_6rr m a1 a2 a3) k) ?_
  show GoW p.tables e below s _ _ _ _ _ (s₁.setTop (mkF m 0 #[.val (.ref a1), .val (.ref a2), .val (.ref a3)] []))
  have heqw := own_we hw
  obtain ⟨ad1, T1, h1, j1, bd1, k1, X1, e1, E1, hS1, hk1, hZ1, hown1, Ex1, Fc1, Fv1, Av1, la1, lb1, C1, Lt1, Ne1, st1⟩ := ldcCH X0 hx hZ hown (hw _ (List.mem_of_getElem? (i := 33) rfl)) own_wSh e0 hS0 hk0 hEL (by decide : ("com/example/rhythmwire/rhythmwire/idc/CommonSegments", 138) ∈ own_EL) Ch0.1 (vs := (([69, 68] : List Int32).map (fun c => c.toInt8.toInt32)).map Value.int) (z := (2 : Int32)) ⟨by decide, by decide⟩ (by decide) (by decide) (g := (mkF m 0 #[.val (.ref a1), .val (.ref a2), .val (.ref a3)] [])) rfl (hb hby d6_0) (n := 8) (by decide) (by decide) (by decide) (by decide)
  have Ch2 := Ch0.trans C1
  have Old0_3 := Old0.ext E1
  have X_a1_4 := X_a1.ext E1
  have X_a2_5 := X_a2.ext E1
  have X_a3_6 := X_a3.ext E1
  have Zp7 := Nat.le_trans Z0 E1.1
  have Kp8 := (Keep.refl h0 []).ext E1
  have Tx1 : Txt Z h1 ad1 ([69, 68] : List Int32) := ⟨by decide, by decide, Ex1, Fc1, bd1, k1, Fv1, Av1⟩
  refine GoW.on st1 ?_
  show GoW p.tables e below s _ _ _ _ _ (T1.setTop (mkF m 2 #[.val (.ref a1), .val (.ref a2), .val (.ref a3)] [(.ref ad1)]))
  refine GoW.on (fun t k => XS.aloadN X1.here hx rfl (hb hby d6_2) rfl rfl k) ?_
  show GoW p.tables e below s _ _ _ _ _ (T1.setTop (mkF m 3 #[.val (.ref a1), .val (.ref a2), .val (.ref a3)] [(.ref a1), (.ref ad1)]))
  have Exr := X_a3.2.2.1
  obtain ⟨p1_9, p2_9, p3_9, p4_9, pt_9, pk_9, p5_9, p6_9⟩ := id Tx1
  have pc_9 : StrChars.Road.CodA ([69, 68] : List Int32) 0 (Int32.ofNat (([69, 68] : List Int32)).length) (((([69, 68] : List Int32)).map (fun c => c.toInt8.toInt32)).map Value.int) := StrChars.Road.codOf (n := (([69, 68] : List Int32)).length) rfl (fun c hc => (p1_9 c hc).2)
  have pb_9 := own_up ([69, 68] : List Int32) p1_9
  obtain ⟨q1_9, q2_9, q3_9, q4_9, qt_9, qk_9, q5_9, q6_9⟩ := id X_a1_4
  have qc_9 : StrChars.Road.CodA ts 0 (Int32.ofNat (ts).length) (((ts).map (fun c => c.toInt8.toInt32)).map Value.int) := StrChars.Road.codOf (n := (ts).length) rfl (fun c hc => (q1_9 c hc).2)
  have qb_9 := own_up ts q1_9
  obtain ⟨cq9, kq9, q9a, q9b, q9c⟩ := isOf hZ1 e1 p3_9
  obtain ⟨_, _, ⟨T9, L9, k9, n9⟩, -, X9, ⟨Lc9, hQ9, l9, y9, z9⟩, st9⟩ := X1.virtualBack hx (y := (⟨"java/lang/String", "equals", "(Ljava/lang/Object;)Z"⟩ : MethodName)) (z := (⟨"java/lang/String", "equals", "(Ljava/lang/Object;)Z"⟩ : MethodName)) hown1 (mvT hZ1 (hw _ (List.mem_of_getElem? (i := 34) rfl))) (mvT hZ1 (hw _ (List.mem_of_getElem? (i := 35) rfl))) (notFace_of_selects (args := #[]) (mvT hZ1 (hw _ (List.mem_of_getElem? (i := 37) rfl)))) (mvT hZ1 (hw _ (List.mem_of_getElem? (i := 37) rfl))) (mvT hZ1 (hw _ (List.mem_of_getElem? (i := 36) rfl))) (by decide) (StrChars.Road.eqW (W := 0) hZ1 heqw (kI := 4) (hw _ (List.mem_of_getElem? (i := 8) rfl)) p3_9 p5_9 p4_9 p6_9 pc_9 pb_9 p2_9 q3_9 q5_9 q4_9 q6_9 qc_9 qb_9 q2_9 (O2.ext Old0_3.2) P5 (by decide) (by decide)) q9a q9c (g := (mkF m 3 #[.val (.ref a1), .val (.ref a2), .val (.ref a3)] [(.ref a1), (.ref ad1)])) rfl (by rw [hml]; rfl) (Steps.refl _) (argsL := [(.ref a1)]) (rest := []) (lenOf pd__40_Ljava_47_lang_47_Object_59__41_Z rfl) rfl (by show 2 * 0 + _ ≤ _; exact Nat.le_of_eq rfl) (hb hby d6_3) (fun _ _ => ⟨rfl, e1, (by decide : (0 + 2) + 0 ≤ _), (by decide : (0 + (8 + 4)) + 0 ≤ _)⟩)
  dsimp only [Pt.U, Pt.locs, Pt.cells, Pt.slots] at X9 l9 y9 z9 st9 hQ9
  rw [l9, y9, z9] at X9
  obtain ⟨hor9, rfl, e9⟩ := hQ9
  have Np10 := Fr.app N0 (Fr.nil n0)
  rcases hor9 with ⟨rfl, hEq9⟩ | ⟨rfl, hNe9⟩
  · refine GoW.via st9 ?_
    show GoW p.tables e below s _ _ _ _ _ (T9.setTop (mkF m 6 #[.val (.ref a1), .val (.ref a2), .val (.ref a3)] [(.int (1 : Int32))]))
    refine GoW.on (fun t k => XS.ifNo X9.here hx rfl (hb hby d6_6) rfl ((if0 _ _).trans (feq (by decide : ¬ ((1 : Int32) = (0 : Int32)))).1) k) ?_
    show GoW p.tables e below s _ _ _ _ _ (T9.setTop (mkF m 9 #[.val (.ref a1), .val (.ref a2), .val (.ref a3)] []))
    refine GoW.on (fun t k => XS.aloadN X9.here hx rfl (hb hby d6_9) rfl rfl (XS.aloadN X9.here hx rfl (hb hby d6_10) rfl rfl k)) ?_
    show GoW p.tables e below s _ _ _ _ _ (T9.setTop (mkF m 11 #[.val (.ref a1), .val (.ref a2), .val (.ref a3)] [(.ref a2), (.ref a3)]))
    obtain ⟨p1_11, p2_11, p3_11, p4_11, pt_11, pk_11, p5_11, p6_11⟩ := id X_a3_6
    have pc_11 : StrChars.Road.CodA rs 0 (Int32.ofNat (rs).length) (((rs).map (fun c => c.toInt8.toInt32)).map Value.int) := StrChars.Road.codOf (n := (rs).length) rfl (fun c hc => (p1_11 c hc).2)
    have pb_11 := own_up rs p1_11
    obtain ⟨q1_11, q2_11, q3_11, q4_11, qt_11, qk_11, q5_11, q6_11⟩ := id X_a2_5
    have qc_11 : StrChars.Road.CodA cs 0 (Int32.ofNat (cs).length) (((cs).map (fun c => c.toInt8.toInt32)).map Value.int) := StrChars.Road.codOf (n := (cs).length) rfl (fun c hc => (q1_11 c hc).2)
    have qb_11 := own_up cs q1_11
    obtain ⟨cq11, kq11, q11a, q11b, q11c⟩ := isOf hZ1 e9 p3_11
    obtain ⟨_, _, ⟨T11, L11, k11, n11⟩, -, X11, ⟨Lc11, hQ11, l11, y11, z11⟩, st11⟩ := X9.virtualBack hx (y := (⟨"java/lang/String", "equals", "(Ljava/lang/Object;)Z"⟩ : MethodName)) (z := (⟨"java/lang/String", "equals", "(Ljava/lang/Object;)Z"⟩ : MethodName)) hown1 (mvT hZ1 (hw _ (List.mem_of_getElem? (i := 34) rfl))) (mvT hZ1 (hw _ (List.mem_of_getElem? (i := 35) rfl))) (notFace_of_selects (args := #[]) (mvT hZ1 (hw _ (List.mem_of_getElem? (i := 37) rfl)))) (mvT hZ1 (hw _ (List.mem_of_getElem? (i := 37) rfl))) (mvT hZ1 (hw _ (List.mem_of_getElem? (i := 36) rfl))) (by decide) (StrChars.Road.eqW (W := 0) hZ1 heqw (kI := 4) (hw _ (List.mem_of_getElem? (i := 8) rfl)) p3_11 p5_11 p4_11 p6_11 pc_11 pb_11 p2_11 q3_11 q5_11 q4_11 q6_11 qc_11 qb_11 q2_11 (O2.ext Old0_3.2) P5 (by decide) (by decide)) q11a q11c (g := (mkF m 11 #[.val (.ref a1), .val (.ref a2), .val (.ref a3)] [(.ref a2), (.ref a3)])) rfl (by rw [hml]; rfl) (Steps.refl _) (argsL := [(.ref a2)]) (rest := []) (lenOf pd__40_Ljava_47_lang_47_Object_59__41_Z rfl) rfl (by show 2 * 0 + _ ≤ _; exact Nat.le_of_eq rfl) (hb hby d6_11) (fun _ _ => ⟨rfl, e9, (by decide : ((0 + 2) + 0) + 0 ≤ _), (by decide : ((0 + (8 + 4)) + 0) + 0 ≤ _)⟩)
    dsimp only [Pt.U, Pt.locs, Pt.cells, Pt.slots] at X11 l11 y11 z11 st11 hQ11
    rw [l11, y11, z11] at X11
    obtain ⟨hor11, rfl, e11⟩ := hQ11
    have Np12 := Fr.app Np10 (Fr.nil n0)
    rcases hor11 with ⟨rfl, hEq11⟩ | ⟨rfl, hNe11⟩
    · refine GoW.via st11 ?_
      show GoW p.tables e below s _ _ _ _ _ (T11.setTop (mkF m 14 #[.val (.ref a1), .val (.ref a2), .val (.ref a3)] [(.int (1 : Int32))]))
      refine GoW.on (fun t k => XS.ifNo X11.here hx rfl (hb hby d6_14) rfl ((if0 _ _).trans (feq (by decide : ¬ ((1 : Int32) = (0 : Int32)))).1) k) ?_
      show GoW p.tables e below s _ _ _ _ _ (T11.setTop (mkF m 17 #[.val (.ref a1), .val (.ref a2), .val (.ref a3)] []))
      refine GoW.on (fun t k => XS.iconst X11.here hx rfl (hb hby d6_17) (XS.goto X11.here hx rfl (pc0 := 18) (pc' := 22) rfl (hb hby d6_18) (by decide) (by decide) k)) ?_
      show GoW p.tables e below s _ _ _ _ _ (T11.setTop (mkF m 22 #[.val (.ref a1), .val (.ref a2), .val (.ref a3)] [(.int (1 : Int32))]))
      refine GoW.retN X11 hx hlk hZ1 hS1 hk1 hEL Ch2 (t := .boolean) Bd.returns (by simp) (hb hby d6_22) (by decide) (by decide) e11 ?_
      exact ⟨(by rw [own_bt ⟨hEq9, hEq11⟩]; rfl), Np12, Kp8⟩
    · refine GoW.via st11 ?_
      show GoW p.tables e below s _ _ _ _ _ (T11.setTop (mkF m 14 #[.val (.ref a1), .val (.ref a2), .val (.ref a3)] [(.int (0 : Int32))]))
      refine GoW.on (fun t k => XS.ifYes X11.here hx rfl (pc0 := 14) (pc' := 21) rfl (hb hby d6_14) rfl ((if0 _ _).trans (teq (by decide : (0 : Int32) = (0 : Int32))).1) (by decide) (by decide) k) ?_
      show GoW p.tables e below s _ _ _ _ _ (T11.setTop (mkF m 21 #[.val (.ref a1), .val (.ref a2), .val (.ref a3)] []))
      refine GoW.on (fun t k => XS.iconst X11.here hx rfl (hb hby d6_21) k) ?_
      show GoW p.tables e below s _ _ _ _ _ (T11.setTop (mkF m 22 #[.val (.ref a1), .val (.ref a2), .val (.ref a3)] [(.int (0 : Int32))]))
      refine GoW.retN X11 hx hlk hZ1 hS1 hk1 hEL Ch2 (t := .boolean) Bd.returns (by simp) (hb hby d6_22) (by decide) (by decide) e11 ?_
      exact ⟨(by rw [own_bf (fun q => hNe11 q.2)]; rfl), Np12, Kp8⟩
  · refine GoW.via st9 ?_
    show GoW p.tables e below s _ _ _ _ _ (T9.setTop (mkF m 6 #[.val (.ref a1), .val (.ref a2), .val (.ref a3)] [(.int (0 : Int32))]))
    refine GoW.on (fun t k => XS.ifYes X9.here hx rfl (pc0 := 6) (pc' := 21) rfl (hb hby d6_6) rfl ((if0 _ _).trans (teq (by decide : (0 : Int32) = (0 : Int32))).1) (by decide) (by decide) k) ?_
    show GoW p.tables e below s _ _ _ _ _ (T9.setTop (mkF m 21 #[.val (.ref a1), .val (.ref a2), .val (.ref a3)] []))
    refine GoW.on (fun t k => XS.iconst X9.here hx rfl (hb hby d6_21) k) ?_
    show GoW p.tables e below s _ _ _ _ _ (T9.setTop (mkF m 22 #[.val (.ref a1), .val (.ref a2), .val (.ref a3)] [(.int (0 : Int32))]))
    refine GoW.retN X9 hx hlk hZ1 hS1 hk1 hEL Ch2 (t := .boolean) Bd.returns (by simp) (hb hby d6_22) (by decide) (by decide) e9 ?_
    exact ⟨(by rw [own_bf (fun q => hNe9 q.1)]; rfl), Np10, Kp8⟩
theorem ef_0 (m : MethodId) (x0 : Int32) (x1 : Int32) (x2 : Int32) (x3 : Int32) : entryFrame m #[(.int x0), (.int x1), (.int x2), (.int x3)] maxLocals = mkF m 0 #[.val (.int x0), .val (.int x1), .val (.int x2), .val (.int x3), .unset, .unset, .unset, .unset, .unset, .unset, .unset, .unset, .unset, .unset, .unset, .unset, .unset, .unset, .unset, .unset, .unset, .unset, .unset, .unset, .unset, .unset, .unset] [] := by first | (simp [entryFrame, mkF, argsToLocals, Value.category, maxLocals]; done) | rfl
def Q0 (Z : State) (p1 : Int32) (p2 : Int32) (p3 : Int32) (p4 : Int32) (G1 : Int32) (h0 : Heap) (n0 : Nat) (v : Option Value) (h : Heap) (L : List Loc) : Prop := v = some (.int (1 : Int32)) ∧ Fr n0 L
set_option maxRecDepth 65536 in
set_option maxHeartbeats 40000000 in
theorem rm0 (l : Launch) (Z : State) (a0 : Array Value) (hw : ∀ d ∈ tables_1, d.before a0 Z = true) (ws : List Jvm.Cond) (p1 : Int32) (p2 : Int32) (p3 : Int32) (p4 : Int32) (G1 : Int32) (h0 : Heap) (n0 : Nat) (Z0 : n0 ≤ h0.size) (Old0 : Old Z n0 h0) (O2 : Sta Z Z.heap "java/lang/String" "COMPACT_STRINGS" "Z" (.int G1)) (P5 : ¬ (G1 = (0 : Int32))) :
    MetFree l x (head1 (Jvm.Cond.code x code maxLocals ret :: ws) room_1) (fun a U => a = #[(.int p1), (.int p2), (.int p3), (.int p4)] ∧ Z.Warmed39 U.vm ∧ U.heap = h0 ∧ CHv Z own_EL U.vm h0) (fun _ _ _ _ _ => True) (fun _ U o U' => ∃ v L, o = .returned v ∧ Q0 Z p1 p2 p3 p4 G1 h0 n0 v U'.heap L ∧ CHr Z own_EL U.vm U.heap U'.vm U'.heap ∧ ReturnedEndW U o U' L room_1.cells room_1.slots) := by
  refine MetFree.of_bodySF (plainFor_of_name pn_com_example_rhythmwire_rhythmwire_idc_CommonSegmentsIsReportPinLaw) hisR ?_
  intro p e s m args below meth c s₁ Bd hml0 hP hK
  obtain ⟨rfl, hZz, hh, H0⟩ := hP
  have hZ : Z.Warmed39 (s.setVm s.vm).vm := hZz
  have hx := Bd.exec
  have hby := Bd.bytes
  have hlk : meth.locks = false := BodyLoose.notSynchronized Bd
  have hml : c.maxLocals = 27 := hml0
  have hown : (s.setVm s.vm).vm.findClass "com/example/rhythmwire/rhythmwire/idc/CommonSegmentsIsReportPinLaw" = some m.cls := findClass_of_methodNamed Bd.named
  have hnm := (name_of_methodNamed Bd.named Bd.method).1
  have X0 : Stand p l e room_1 (s.setVm s.vm) m #[(.int p1), (.int p2), (.int p3), (.int p4)] below meth c s₁ [] 0 0 := Stand.of_body Bd
  have e0 : s₁.heap = h0 := by rw [← hh, Bd.state]; rfl
  have N0 := Fr.nil n0
  have hEL := own_EW hw
  have own_wSh := own_wS hw
  have hS0 : s.Since s.vm 0 := (State.WarmedH.refl s).since 0
  have hk0 : 0 ≤ h0.size := Nat.zero_le _
  have Ch0 : CHr Z own_EL s.vm s.heap s.vm h0 := by rw [hh]; exact CHr.refl H0
  show GoW p.tables e below s (Q0 Z p1 p2 p3 p4 G1 h0 n0) Z own_EL room_1.cells room_1.slots (s₁.setTop (entryFrame m #[(.int p1), (.int p2), (.int p3), (.int p4)] maxLocals))
  refine GoW.on (fun t k => castTop (ef_0 m p1 p2 p3 p4) k) ?_
  show GoW p.tables e below s _ _ _ _ _ (s₁.setTop (mkF m 0 #[.val (.int p1), .val (.int p2), .val (.int p3), .val (.int p4), .unset, .unset, .unset, .unset, .unset, .unset, .unset, .unset, .unset, .unset, .unset, .unset, .unset, .unset, .unset, .unset, .unset, .unset, .unset, .unset, .unset, .unset, .unset] []))
  refine GoW.on (fun t k => XS.iloadN X0.here hx rfl (hb hby at_0) rfl (XS.iconst X0.here hx rfl (hb hby at_1) (XS.iand X0.here hx rfl (hb hby at_2) rfl k))) ?_
  show GoW p.tables e below s _ _ _ _ _ (s₁.setTop (mkF m 3 #[.val (.int p1), .val (.int p2), .val (.int p3), .val (.int p4), .unset, .unset, .unset, .unset, .unset, .unset, .unset, .unset, .unset, .unset, .unset, .unset, .unset, .unset, .unset, .unset, .unset, .unset, .unset, .unset, .unset, .unset, .unset] [(.int (p4 &&& (1 : Int32)))]))
  have J1 : GoW p.tables e below s (Q0 Z p1 p2 p3 p4 G1 h0 n0) Z own_EL room_1.cells room_1.slots (s₁.setTop (mkF m 11 #[.val (.int p1), .val (.int p2), .val (.int p3), .val (.int p4), .unset, .unset, .unset, .unset, .unset, .unset, .unset, .unset, .unset, .unset, .unset, .unset, .unset, .unset, .unset, .unset, .unset, .unset, .unset, .unset, .unset, .unset, .unset] [(.int (own_b (¬ (p4 &&& (1 : Int32)) = (0 : Int32))))])) → GoW p.tables e below s (Q0 Z p1 p2 p3 p4 G1 h0 n0) Z own_EL room_1.cells room_1.slots (s₁.setTop (mkF m 3 #[.val (.int p1), .val (.int p2), .val (.int p3), .val (.int p4), .unset, .unset, .unset, .unset, .unset, .unset, .unset, .unset, .unset, .unset, .unset, .unset, .unset, .unset, .unset, .unset, .unset, .unset, .unset, .unset, .unset, .unset, .unset] [(.int (p4 &&& (1 : Int32)))])) := by
    intro kJ
    by_cases hc3_2 : (p4 &&& (1 : Int32)) = (0 : Int32)
    · refine GoW.on (fun t k => XS.ifYes X0.here hx rfl (pc0 := 3) (pc' := 10) rfl (hb hby at_3) rfl ((if0 _ _).trans (teq hc3_2).1) (by decide) (by decide) k) ?_
      show GoW p.tables e below s _ _ _ _ _ (s₁.setTop (mkF m 10 #[.val (.int p1), .val (.int p2), .val (.int p3), .val (.int p4), .unset, .unset, .unset, .unset, .unset, .unset, .unset, .unset, .unset, .unset, .unset, .unset, .unset, .unset, .unset, .unset, .unset, .unset, .unset, .unset, .unset, .unset, .unset] []))
      refine GoW.on (fun t k => XS.iconst X0.here hx rfl (hb hby at_10) k) ?_
      show GoW p.tables e below s _ _ _ _ _ (s₁.setTop (mkF m 11 #[.val (.int p1), .val (.int p2), .val (.int p3), .val (.int p4), .unset, .unset, .unset, .unset, .unset, .unset, .unset, .unset, .unset, .unset, .unset, .unset, .unset, .unset, .unset, .unset, .unset, .unset, .unset, .unset, .unset, .unset, .unset] [(.int (0 : Int32))]))
      have eJ : own_b (¬ (p4 &&& (1 : Int32)) = (0 : Int32)) = 0 := own_bf (fun q => q hc3_2)
      rw [eJ] at kJ
      exact kJ
    · refine GoW.on (fun t k => XS.ifNo X0.here hx rfl (hb hby at_3) rfl ((if0 _ _).trans (feq hc3_2).1) k) ?_
      show GoW p.tables e below s _ _ _ _ _ (s₁.setTop (mkF m 6 #[.val (.int p1), .val (.int p2), .val (.int p3), .val (.int p4), .unset, .unset, .unset, .unset, .unset, .unset, .unset, .unset, .unset, .unset, .unset, .unset, .unset, .unset, .unset, .unset, .unset, .unset, .unset, .unset, .unset, .unset, .unset] []))
      refine GoW.on (fun t k => XS.iconst X0.here hx rfl (hb hby at_6) (XS.goto X0.here hx rfl (pc0 := 7) (pc' := 11) rfl (hb hby at_7) (by decide) (by decide) k)) ?_
      show GoW p.tables e below s _ _ _ _ _ (s₁.setTop (mkF m 11 #[.val (.int p1), .val (.int p2), .val (.int p3), .val (.int p4), .unset, .unset, .unset, .unset, .unset, .unset, .unset, .unset, .unset, .unset, .unset, .unset, .unset, .unset, .unset, .unset, .unset, .unset, .unset, .unset, .unset, .unset, .unset] [(.int (1 : Int32))]))
      have eJ : own_b (¬ (p4 &&& (1 : Int32)) = (0 : Int32)) = 1 := own_bt hc3_2
      rw [eJ] at kJ
      exact kJ
  refine J1 ?_
  show GoW p.tables e below s _ _ _ _ _ (s₁.setTop (mkF m 11 #[.val (.int p1), .val (.int p2), .val (.int p3), .val (.int p4), .unset, .unset, .unset, .unset, .unset, .unset, .unset, .unset, .unset, .unset, .unset, .unset, .unset, .unset, .unset, .unset, .unset, .unset, .unset, .unset, .unset, .unset, .unset] [(.int (own_b (¬ (p4 &&& (1 : Int32)) = (0 : Int32))))]))
  obtain ⟨bT, hbT⟩ : ∃ z, z = (own_b (¬ (p4 &&& (1 : Int32)) = (0 : Int32))) := ⟨_, rfl⟩
  rw [← hbT]
  refine GoW.on (fun t k => XS.istore X0.here hx rfl (hb hby at_11) rfl (l' := #[.val (.int p1), .val (.int p2), .val (.int p3), .val (.int p4), .val (.int bT), .unset, .unset, .unset, .unset, .unset, .unset, .unset, .unset, .unset, .unset, .unset, .unset, .unset, .unset, .unset, .unset, .unset, .unset, .unset, .unset, .unset, .unset]) rfl (XS.iloadN X0.here hx rfl (hb hby at_13) rfl (XS.iconst X0.here hx rfl (hb hby at_14) (XS.iand X0.here hx rfl (hb hby at_15) rfl k)))) ?_
  show GoW p.tables e below s _ _ _ _ _ (s₁.setTop (mkF m 16 #[.val (.int p1), .val (.int p2), .val (.int p3), .val (.int p4), .val (.int bT), .unset, .unset, .unset, .unset, .unset, .unset, .unset, .unset, .unset, .unset, .unset, .unset, .unset, .unset, .unset, .unset, .unset, .unset, .unset, .unset, .unset, .unset] [(.int (p4 &&& (2 : Int32)))]))
  have J3 : GoW p.tables e below s (Q0 Z p1 p2 p3 p4 G1 h0 n0) Z own_EL room_1.cells room_1.slots (s₁.setTop (mkF m 24 #[.val (.int p1), .val (.int p2), .val (.int p3), .val (.int p4), .val (.int bT), .unset, .unset, .unset, .unset, .unset, .unset, .unset, .unset, .unset, .unset, .unset, .unset, .unset, .unset, .unset, .unset, .unset, .unset, .unset, .unset, .unset, .unset] [(.int (own_b (¬ (p4 &&& (2 : Int32)) = (0 : Int32))))])) → GoW p.tables e below s (Q0 Z p1 p2 p3 p4 G1 h0 n0) Z own_EL room_1.cells room_1.slots (s₁.setTop (mkF m 16 #[.val (.int p1), .val (.int p2), .val (.int p3), .val (.int p4), .val (.int bT), .unset, .unset, .unset, .unset, .unset, .unset, .unset, .unset, .unset, .unset, .unset, .unset, .unset, .unset, .unset, .unset, .unset, .unset, .unset, .unset, .unset, .unset] [(.int (p4 &&& (2 : Int32)))])) := by
    intro kJ
    by_cases hc16_4 : (p4 &&& (2 : Int32)) = (0 : Int32)
    · refine GoW.on (fun t k => XS.ifYes X0.here hx rfl (pc0 := 16) (pc' := 23) rfl (hb hby at_16) rfl ((if0 _ _).trans (teq hc16_4).1) (by decide) (by decide) k) ?_
      show GoW p.tables e below s _ _ _ _ _ (s₁.setTop (mkF m 23 #[.val (.int p1), .val (.int p2), .val (.int p3), .val (.int p4), .val (.int bT), .unset, .unset, .unset, .unset, .unset, .unset, .unset, .unset, .unset, .unset, .unset, .unset, .unset, .unset, .unset, .unset, .unset, .unset, .unset, .unset, .unset, .unset] []))
      refine GoW.on (fun t k => XS.iconst X0.here hx rfl (hb hby at_23) k) ?_
      show GoW p.tables e below s _ _ _ _ _ (s₁.setTop (mkF m 24 #[.val (.int p1), .val (.int p2), .val (.int p3), .val (.int p4), .val (.int bT), .unset, .unset, .unset, .unset, .unset, .unset, .unset, .unset, .unset, .unset, .unset, .unset, .unset, .unset, .unset, .unset, .unset, .unset, .unset, .unset, .unset, .unset] [(.int (0 : Int32))]))
      have eJ : own_b (¬ (p4 &&& (2 : Int32)) = (0 : Int32)) = 0 := own_bf (fun q => q hc16_4)
      rw [eJ] at kJ
      exact kJ
    · refine GoW.on (fun t k => XS.ifNo X0.here hx rfl (hb hby at_16) rfl ((if0 _ _).trans (feq hc16_4).1) k) ?_
      show GoW p.tables e below s _ _ _ _ _ (s₁.setTop (mkF m 19 #[.val (.int p1), .val (.int p2), .val (.int p3), .val (.int p4), .val (.int bT), .unset, .unset, .unset, .unset, .unset, .unset, .unset, .unset, .unset, .unset, .unset, .unset, .unset, .unset, .unset, .unset, .unset, .unset, .unset, .unset, .unset, .unset] []))
      refine GoW.on (fun t k => XS.iconst X0.here hx rfl (hb hby at_19) (XS.goto X0.here hx rfl (pc0 := 20) (pc' := 24) rfl (hb hby at_20) (by decide) (by decide) k)) ?_
      show GoW p.tables e below s _ _ _ _ _ (s₁.setTop (mkF m 24 #[.val (.int p1), .val (.int p2), .val (.int p3), .val (.int p4), .val (.int bT), .unset, .unset, .unset, .unset, .unset, .unset, .unset, .unset, .unset, .unset, .unset, .unset, .unset, .unset, .unset, .unset, .unset, .unset, .unset, .unset, .unset, .unset] [(.int (1 : Int32))]))
      have eJ : own_b (¬ (p4 &&& (2 : Int32)) = (0 : Int32)) = 1 := own_bt hc16_4
      rw [eJ] at kJ
      exact kJ
  refine J3 ?_
  show GoW p.tables e below s _ _ _ _ _ (s₁.setTop (mkF m 24 #[.val (.int p1), .val (.int p2), .val (.int p3), .val (.int p4), .val (.int bT), .unset, .unset, .unset, .unset, .unset, .unset, .unset, .unset, .unset, .unset, .unset, .unset, .unset, .unset, .unset, .unset, .unset, .unset, .unset, .unset, .unset, .unset] [(.int (own_b (¬ (p4 &&& (2 : Int32)) = (0 : Int32))))]))
  obtain ⟨bC, hbC⟩ : ∃ z, z = (own_b (¬ (p4 &&& (2 : Int32)) = (0 : Int32))) := ⟨_, rfl⟩
  rw [← hbC]
  refine GoW.on (fun t k => XS.istore X0.here hx rfl (hb hby at_24) rfl (l' := #[.val (.int p1), .val (.int p2), .val (.int p3), .val (.int p4), .val (.int bT), .val (.int bC), .unset, .unset, .unset, .unset, .unset, .unset, .unset, .unset, .unset, .unset, .unset, .unset, .unset, .unset, .unset, .unset, .unset, .unset, .unset, .unset, .unset]) rfl (XS.iloadN X0.here hx rfl (hb hby at_26) rfl (XS.iconst X0.here hx rfl (hb hby at_27) (XS.iushr X0.here hx rfl (hb hby at_28) rfl (XS.iconst X0.here hx rfl (hb hby at_29) (XS.iand X0.here hx rfl (hb hby at_30) rfl k)))))) ?_
  show GoW p.tables e below s _ _ _ _ _ (s₁.setTop (mkF m 31 #[.val (.int p1), .val (.int p2), .val (.int p3), .val (.int p4), .val (.int bT), .val (.int bC), .unset, .unset, .unset, .unset, .unset, .unset, .unset, .unset, .unset, .unset, .unset, .unset, .unset, .unset, .unset, .unset, .unset, .unset, .unset, .unset, .unset] [(.int (((p4.toUInt32 >>> ((2 : Int32) &&& 31).toUInt32).toInt32) &&& (3 : Int32)))]))
  obtain ⟨lT, hlT, elT⟩ := own_and3n ((p4.toUInt32 >>> ((2 : Int32) &&& 31).toUInt32).toInt32)
  rw [elT]
  show GoW p.tables e below s _ _ _ _ _ (s₁.setTop (mkF m 31 #[.val (.int p1), .val (.int p2), .val (.int p3), .val (.int p4), .val (.int bT), .val (.int bC), .unset, .unset, .unset, .unset, .unset, .unset, .unset, .unset, .unset, .unset, .unset, .unset, .unset, .unset, .unset, .unset, .unset, .unset, .unset, .unset, .unset] [(.int (Int32.ofNat lT))]))
  refine GoW.on (fun t k => XS.istore X0.here hx rfl (hb hby at_31) rfl (l' := #[.val (.int p1), .val (.int p2), .val (.int p3), .val (.int p4), .val (.int bT), .val (.int bC), .val (.int (Int32.ofNat lT)), .unset, .unset, .unset, .unset, .unset, .unset, .unset, .unset, .unset, .unset, .unset, .unset, .unset, .unset, .unset, .unset, .unset, .unset, .unset, .unset]) rfl (XS.iloadN X0.here hx rfl (hb hby at_33) rfl (XS.iconst X0.here hx rfl (hb hby at_34) (XS.iushr X0.here hx rfl (hb hby at_35) rfl (XS.iconst X0.here hx rfl (hb hby at_36) (XS.iand X0.here hx rfl (hb hby at_37) rfl k)))))) ?_
  show GoW p.tables e below s _ _ _ _ _ (s₁.setTop (mkF m 38 #[.val (.int p1), .val (.int p2), .val (.int p3), .val (.int p4), .val (.int bT), .val (.int bC), .val (.int (Int32.ofNat lT)), .unset, .unset, .unset, .unset, .unset, .unset, .unset, .unset, .unset, .unset, .unset, .unset, .unset, .unset, .unset, .unset, .unset, .unset, .unset, .unset] [(.int (((p4.toUInt32 >>> ((4 : Int32) &&& 31).toUInt32).toInt32) &&& (3 : Int32)))]))
  obtain ⟨lC, hlC, elC⟩ := own_and3n ((p4.toUInt32 >>> ((4 : Int32) &&& 31).toUInt32).toInt32)
  rw [elC]
  show GoW p.tables e below s _ _ _ _ _ (s₁.setTop (mkF m 38 #[.val (.int p1), .val (.int p2), .val (.int p3), .val (.int p4), .val (.int bT), .val (.int bC), .val (.int (Int32.ofNat lT)), .unset, .unset, .unset, .unset, .unset, .unset, .unset, .unset, .unset, .unset, .unset, .unset, .unset, .unset, .unset, .unset, .unset, .unset, .unset, .unset] [(.int (Int32.ofNat lC))]))
  refine GoW.on (fun t k => XS.istore X0.here hx rfl (hb hby at_38) rfl (l' := #[.val (.int p1), .val (.int p2), .val (.int p3), .val (.int p4), .val (.int bT), .val (.int bC), .val (.int (Int32.ofNat lT)), .val (.int (Int32.ofNat lC)), .unset, .unset, .unset, .unset, .unset, .unset, .unset, .unset, .unset, .unset, .unset, .unset, .unset, .unset, .unset, .unset, .unset, .unset, .unset]) rfl (XS.iloadN X0.here hx rfl (hb hby at_40) rfl (XS.bipush X0.here hx rfl (hb hby at_41) (XS.iand X0.here hx rfl (hb hby at_43) rfl k)))) ?_
  show GoW p.tables e below s _ _ _ _ _ (s₁.setTop (mkF m 44 #[.val (.int p1), .val (.int p2), .val (.int p3), .val (.int p4), .val (.int bT), .val (.int bC), .val (.int (Int32.ofNat lT)), .val (.int (Int32.ofNat lC)), .unset, .unset, .unset, .unset, .unset, .unset, .unset, .unset, .unset, .unset, .unset, .unset, .unset, .unset, .unset, .unset, .unset, .unset, .unset] [(.int (p4 &&& (64 : Int32)))]))
  have J5 : GoW p.tables e below s (Q0 Z p1 p2 p3 p4 G1 h0 n0) Z own_EL room_1.cells room_1.slots (s₁.setTop (mkF m 52 #[.val (.int p1), .val (.int p2), .val (.int p3), .val (.int p4), .val (.int bT), .val (.int bC), .val (.int (Int32.ofNat lT)), .val (.int (Int32.ofNat lC)), .unset, .unset, .unset, .unset, .unset, .unset, .unset, .unset, .unset, .unset, .unset, .unset, .unset, .unset, .unset, .unset, .unset, .unset, .unset] [(.int (own_b (¬ (p4 &&& (64 : Int32)) = (0 : Int32))))])) → GoW p.tables e below s (Q0 Z p1 p2 p3 p4 G1 h0 n0) Z own_EL room_1.cells room_1.slots (s₁.setTop (mkF m 44 #[.val (.int p1), .val (.int p2), .val (.int p3), .val (.int p4), .val (.int bT), .val (.int bC), .val (.int (Int32.ofNat lT)), .val (.int (Int32.ofNat lC)), .unset, .unset, .unset, .unset, .unset, .unset, .unset, .unset, .unset, .unset, .unset, .unset, .unset, .unset, .unset, .unset, .unset, .unset, .unset] [(.int (p4 &&& (64 : Int32)))])) := by
    intro kJ
    by_cases hc44_6 : (p4 &&& (64 : Int32)) = (0 : Int32)
    · refine GoW.on (fun t k => XS.ifYes X0.here hx rfl (pc0 := 44) (pc' := 51) rfl (hb hby at_44) rfl ((if0 _ _).trans (teq hc44_6).1) (by decide) (by decide) k) ?_
      show GoW p.tables e below s _ _ _ _ _ (s₁.setTop (mkF m 51 #[.val (.int p1), .val (.int p2), .val (.int p3), .val (.int p4), .val (.int bT), .val (.int bC), .val (.int (Int32.ofNat lT)), .val (.int (Int32.ofNat lC)), .unset, .unset, .unset, .unset, .unset, .unset, .unset, .unset, .unset, .unset, .unset, .unset, .unset, .unset, .unset, .unset, .unset, .unset, .unset] []))
      refine GoW.on (fun t k => XS.iconst X0.here hx rfl (hb hby at_51) k) ?_
      show GoW p.tables e below s _ _ _ _ _ (s₁.setTop (mkF m 52 #[.val (.int p1), .val (.int p2), .val (.int p3), .val (.int p4), .val (.int bT), .val (.int bC), .val (.int (Int32.ofNat lT)), .val (.int (Int32.ofNat lC)), .unset, .unset, .unset, .unset, .unset, .unset, .unset, .unset, .unset, .unset, .unset, .unset, .unset, .unset, .unset, .unset, .unset, .unset, .unset] [(.int (0 : Int32))]))
      have eJ : own_b (¬ (p4 &&& (64 : Int32)) = (0 : Int32)) = 0 := own_bf (fun q => q hc44_6)
      rw [eJ] at kJ
      exact kJ
    · refine GoW.on (fun t k => XS.ifNo X0.here hx rfl (hb hby at_44) rfl ((if0 _ _).trans (feq hc44_6).1) k) ?_
      show GoW p.tables e below s _ _ _ _ _ (s₁.setTop (mkF m 47 #[.val (.int p1), .val (.int p2), .val (.int p3), .val (.int p4), .val (.int bT), .val (.int bC), .val (.int (Int32.ofNat lT)), .val (.int (Int32.ofNat lC)), .unset, .unset, .unset, .unset, .unset, .unset, .unset, .unset, .unset, .unset, .unset, .unset, .unset, .unset, .unset, .unset, .unset, .unset, .unset] []))
      refine GoW.on (fun t k => XS.iconst X0.here hx rfl (hb hby at_47) (XS.goto X0.here hx rfl (pc0 := 48) (pc' := 52) rfl (hb hby at_48) (by decide) (by decide) k)) ?_
      show GoW p.tables e below s _ _ _ _ _ (s₁.setTop (mkF m 52 #[.val (.int p1), .val (.int p2), .val (.int p3), .val (.int p4), .val (.int bT), .val (.int bC), .val (.int (Int32.ofNat lT)), .val (.int (Int32.ofNat lC)), .unset, .unset, .unset, .unset, .unset, .unset, .unset, .unset, .unset, .unset, .unset, .unset, .unset, .unset, .unset, .unset, .unset, .unset, .unset] [(.int (1 : Int32))]))
      have eJ : own_b (¬ (p4 &&& (64 : Int32)) = (0 : Int32)) = 1 := own_bt hc44_6
      rw [eJ] at kJ
      exact kJ
  refine J5 ?_
  show GoW p.tables e below s _ _ _ _ _ (s₁.setTop (mkF m 52 #[.val (.int p1), .val (.int p2), .val (.int p3), .val (.int p4), .val (.int bT), .val (.int bC), .val (.int (Int32.ofNat lT)), .val (.int (Int32.ofNat lC)), .unset, .unset, .unset, .unset, .unset, .unset, .unset, .unset, .unset, .unset, .unset, .unset, .unset, .unset, .unset, .unset, .unset, .unset, .unset] [(.int (own_b (¬ (p4 &&& (64 : Int32)) = (0 : Int32))))]))
  obtain ⟨nT, hnT⟩ : ∃ z, z = (own_b (¬ (p4 &&& (64 : Int32)) = (0 : Int32))) := ⟨_, rfl⟩
  rw [← hnT]
  refine GoW.on (fun t k => XS.istore X0.here hx rfl (hb hby at_52) rfl (l' := #[.val (.int p1), .val (.int p2), .val (.int p3), .val (.int p4), .val (.int bT), .val (.int bC), .val (.int (Int32.ofNat lT)), .val (.int (Int32.ofNat lC)), .val (.int nT), .unset, .unset, .unset, .unset, .unset, .unset, .unset, .unset, .unset, .unset, .unset, .unset, .unset, .unset, .unset, .unset, .unset, .unset]) rfl (XS.iloadN X0.here hx rfl (hb hby at_54) rfl (XS.sipush X0.here hx rfl (hb hby at_55) (XS.iand X0.here hx rfl (hb hby at_58) rfl k)))) ?_
  show GoW p.tables e below s _ _ _ _ _ (s₁.setTop (mkF m 59 #[.val (.int p1), .val (.int p2), .val (.int p3), .val (.int p4), .val (.int bT), .val (.int bC), .val (.int (Int32.ofNat lT)), .val (.int (Int32.ofNat lC)), .val (.int nT), .unset, .unset, .unset, .unset, .unset, .unset, .unset, .unset, .unset, .unset, .unset, .unset, .unset, .unset, .unset, .unset, .unset, .unset] [(.int (p4 &&& (128 : Int32)))]))
  have J7 : GoW p.tables e below s (Q0 Z p1 p2 p3 p4 G1 h0 n0) Z own_EL room_1.cells room_1.slots (s₁.setTop (mkF m 67 #[.val (.int p1), .val (.int p2), .val (.int p3), .val (.int p4), .val (.int bT), .val (.int bC), .val (.int (Int32.ofNat lT)), .val (.int (Int32.ofNat lC)), .val (.int nT), .unset, .unset, .unset, .unset, .unset, .unset, .unset, .unset, .unset, .unset, .unset, .unset, .unset, .unset, .unset, .unset, .unset, .unset] [(.int (own_b (¬ (p4 &&& (128 : Int32)) = (0 : Int32))))])) → GoW p.tables e below s (Q0 Z p1 p2 p3 p4 G1 h0 n0) Z own_EL room_1.cells room_1.slots (s₁.setTop (mkF m 59 #[.val (.int p1), .val (.int p2), .val (.int p3), .val (.int p4), .val (.int bT), .val (.int bC), .val (.int (Int32.ofNat lT)), .val (.int (Int32.ofNat lC)), .val (.int nT), .unset, .unset, .unset, .unset, .unset, .unset, .unset, .unset, .unset, .unset, .unset, .unset, .unset, .unset, .unset, .unset, .unset, .unset] [(.int (p4 &&& (128 : Int32)))])) := by
    intro kJ
    by_cases hc59_8 : (p4 &&& (128 : Int32)) = (0 : Int32)
    · refine GoW.on (fun t k => XS.ifYes X0.here hx rfl (pc0 := 59) (pc' := 66) rfl (hb hby at_59) rfl ((if0 _ _).trans (teq hc59_8).1) (by decide) (by decide) k) ?_
      show GoW p.tables e below s _ _ _ _ _ (s₁.setTop (mkF m 66 #[.val (.int p1), .val (.int p2), .val (.int p3), .val (.int p4), .val (.int bT), .val (.int bC), .val (.int (Int32.ofNat lT)), .val (.int (Int32.ofNat lC)), .val (.int nT), .unset, .unset, .unset, .unset, .unset, .unset, .unset, .unset, .unset, .unset, .unset, .unset, .unset, .unset, .unset, .unset, .unset, .unset] []))
      refine GoW.on (fun t k => XS.iconst X0.here hx rfl (hb hby at_66) k) ?_
      show GoW p.tables e below s _ _ _ _ _ (s₁.setTop (mkF m 67 #[.val (.int p1), .val (.int p2), .val (.int p3), .val (.int p4), .val (.int bT), .val (.int bC), .val (.int (Int32.ofNat lT)), .val (.int (Int32.ofNat lC)), .val (.int nT), .unset, .unset, .unset, .unset, .unset, .unset, .unset, .unset, .unset, .unset, .unset, .unset, .unset, .unset, .unset, .unset, .unset, .unset] [(.int (0 : Int32))]))
      have eJ : own_b (¬ (p4 &&& (128 : Int32)) = (0 : Int32)) = 0 := own_bf (fun q => q hc59_8)
      rw [eJ] at kJ
      exact kJ
    · refine GoW.on (fun t k => XS.ifNo X0.here hx rfl (hb hby at_59) rfl ((if0 _ _).trans (feq hc59_8).1) k) ?_
      show GoW p.tables e below s _ _ _ _ _ (s₁.setTop (mkF m 62 #[.val (.int p1), .val (.int p2), .val (.int p3), .val (.int p4), .val (.int bT), .val (.int bC), .val (.int (Int32.ofNat lT)), .val (.int (Int32.ofNat lC)), .val (.int nT), .unset, .unset, .unset, .unset, .unset, .unset, .unset, .unset, .unset, .unset, .unset, .unset, .unset, .unset, .unset, .unset, .unset, .unset] []))
      refine GoW.on (fun t k => XS.iconst X0.here hx rfl (hb hby at_62) (XS.goto X0.here hx rfl (pc0 := 63) (pc' := 67) rfl (hb hby at_63) (by decide) (by decide) k)) ?_
      show GoW p.tables e below s _ _ _ _ _ (s₁.setTop (mkF m 67 #[.val (.int p1), .val (.int p2), .val (.int p3), .val (.int p4), .val (.int bT), .val (.int bC), .val (.int (Int32.ofNat lT)), .val (.int (Int32.ofNat lC)), .val (.int nT), .unset, .unset, .unset, .unset, .unset, .unset, .unset, .unset, .unset, .unset, .unset, .unset, .unset, .unset, .unset, .unset, .unset, .unset] [(.int (1 : Int32))]))
      have eJ : own_b (¬ (p4 &&& (128 : Int32)) = (0 : Int32)) = 1 := own_bt hc59_8
      rw [eJ] at kJ
      exact kJ
  refine J7 ?_
  show GoW p.tables e below s _ _ _ _ _ (s₁.setTop (mkF m 67 #[.val (.int p1), .val (.int p2), .val (.int p3), .val (.int p4), .val (.int bT), .val (.int bC), .val (.int (Int32.ofNat lT)), .val (.int (Int32.ofNat lC)), .val (.int nT), .unset, .unset, .unset, .unset, .unset, .unset, .unset, .unset, .unset, .unset, .unset, .unset, .unset, .unset, .unset, .unset, .unset, .unset] [(.int (own_b (¬ (p4 &&& (128 : Int32)) = (0 : Int32))))]))
  obtain ⟨nC, hnC⟩ : ∃ z, z = (own_b (¬ (p4 &&& (128 : Int32)) = (0 : Int32))) := ⟨_, rfl⟩
  rw [← hnC]
  refine GoW.on (fun t k => XS.istore X0.here hx rfl (hb hby at_67) rfl (l' := #[.val (.int p1), .val (.int p2), .val (.int p3), .val (.int p4), .val (.int bT), .val (.int bC), .val (.int (Int32.ofNat lT)), .val (.int (Int32.ofNat lC)), .val (.int nT), .val (.int nC), .unset, .unset, .unset, .unset, .unset, .unset, .unset, .unset, .unset, .unset, .unset, .unset, .unset, .unset, .unset, .unset, .unset]) rfl (XS.iloadN X0.here hx rfl (hb hby at_69) rfl (XS.bipush X0.here hx rfl (hb hby at_70) (XS.iushr X0.here hx rfl (hb hby at_72) rfl (XS.iconst X0.here hx rfl (hb hby at_73) (XS.iand X0.here hx rfl (hb hby at_74) rfl k)))))) ?_
  show GoW p.tables e below s _ _ _ _ _ (s₁.setTop (mkF m 75 #[.val (.int p1), .val (.int p2), .val (.int p3), .val (.int p4), .val (.int bT), .val (.int bC), .val (.int (Int32.ofNat lT)), .val (.int (Int32.ofNat lC)), .val (.int nT), .val (.int nC), .unset, .unset, .unset, .unset, .unset, .unset, .unset, .unset, .unset, .unset, .unset, .unset, .unset, .unset, .unset, .unset, .unset] [(.int (((p4.toUInt32 >>> ((8 : Int32) &&& 31).toUInt32).toInt32) &&& (3 : Int32)))]))
  obtain ⟨lR, hlR, elR⟩ := own_and3n ((p4.toUInt32 >>> ((8 : Int32) &&& 31).toUInt32).toInt32)
  rw [elR]
  show GoW p.tables e below s _ _ _ _ _ (s₁.setTop (mkF m 75 #[.val (.int p1), .val (.int p2), .val (.int p3), .val (.int p4), .val (.int bT), .val (.int bC), .val (.int (Int32.ofNat lT)), .val (.int (Int32.ofNat lC)), .val (.int nT), .val (.int nC), .unset, .unset, .unset, .unset, .unset, .unset, .unset, .unset, .unset, .unset, .unset, .unset, .unset, .unset, .unset, .unset, .unset] [(.int (Int32.ofNat lR))]))
  refine GoW.on (fun t k => XS.istore X0.here hx rfl (hb hby at_75) rfl (l' := #[.val (.int p1), .val (.int p2), .val (.int p3), .val (.int p4), .val (.int bT), .val (.int bC), .val (.int (Int32.ofNat lT)), .val (.int (Int32.ofNat lC)), .val (.int nT), .val (.int nC), .val (.int (Int32.ofNat lR)), .unset, .unset, .unset, .unset, .unset, .unset, .unset, .unset, .unset, .unset, .unset, .unset, .unset, .unset, .unset, .unset]) rfl (XS.iloadN X0.here hx rfl (hb hby at_77) rfl (XS.sipush X0.here hx rfl (hb hby at_78) (XS.iand X0.here hx rfl (hb hby at_81) rfl k)))) ?_
  show GoW p.tables e below s _ _ _ _ _ (s₁.setTop (mkF m 82 #[.val (.int p1), .val (.int p2), .val (.int p3), .val (.int p4), .val (.int bT), .val (.int bC), .val (.int (Int32.ofNat lT)), .val (.int (Int32.ofNat lC)), .val (.int nT), .val (.int nC), .val (.int (Int32.ofNat lR)), .unset, .unset, .unset, .unset, .unset, .unset, .unset, .unset, .unset, .unset, .unset, .unset, .unset, .unset, .unset, .unset] [(.int (p4 &&& (1024 : Int32)))]))
  have J9 : GoW p.tables e below s (Q0 Z p1 p2 p3 p4 G1 h0 n0) Z own_EL room_1.cells room_1.slots (s₁.setTop (mkF m 90 #[.val (.int p1), .val (.int p2), .val (.int p3), .val (.int p4), .val (.int bT), .val (.int bC), .val (.int (Int32.ofNat lT)), .val (.int (Int32.ofNat lC)), .val (.int nT), .val (.int nC), .val (.int (Int32.ofNat lR)), .unset, .unset, .unset, .unset, .unset, .unset, .unset, .unset, .unset, .unset, .unset, .unset, .unset, .unset, .unset, .unset] [(.int (own_b (¬ (p4 &&& (1024 : Int32)) = (0 : Int32))))])) → GoW p.tables e below s (Q0 Z p1 p2 p3 p4 G1 h0 n0) Z own_EL room_1.cells room_1.slots (s₁.setTop (mkF m 82 #[.val (.int p1), .val (.int p2), .val (.int p3), .val (.int p4), .val (.int bT), .val (.int bC), .val (.int (Int32.ofNat lT)), .val (.int (Int32.ofNat lC)), .val (.int nT), .val (.int nC), .val (.int (Int32.ofNat lR)), .unset, .unset, .unset, .unset, .unset, .unset, .unset, .unset, .unset, .unset, .unset, .unset, .unset, .unset, .unset, .unset] [(.int (p4 &&& (1024 : Int32)))])) := by
    intro kJ
    by_cases hc82_10 : (p4 &&& (1024 : Int32)) = (0 : Int32)
    · refine GoW.on (fun t k => XS.ifYes X0.here hx rfl (pc0 := 82) (pc' := 89) rfl (hb hby at_82) rfl ((if0 _ _).trans (teq hc82_10).1) (by decide) (by decide) k) ?_
      show GoW p.tables e below s _ _ _ _ _ (s₁.setTop (mkF m 89 #[.val (.int p1), .val (.int p2), .val (.int p3), .val (.int p4), .val (.int bT), .val (.int bC), .val (.int (Int32.ofNat lT)), .val (.int (Int32.ofNat lC)), .val (.int nT), .val (.int nC), .val (.int (Int32.ofNat lR)), .unset, .unset, .unset, .unset, .unset, .unset, .unset, .unset, .unset, .unset, .unset, .unset, .unset, .unset, .unset, .unset] []))
      refine GoW.on (fun t k => XS.iconst X0.here hx rfl (hb hby at_89) k) ?_
      show GoW p.tables e below s _ _ _ _ _ (s₁.setTop (mkF m 90 #[.val (.int p1), .val (.int p2), .val (.int p3), .val (.int p4), .val (.int bT), .val (.int bC), .val (.int (Int32.ofNat lT)), .val (.int (Int32.ofNat lC)), .val (.int nT), .val (.int nC), .val (.int (Int32.ofNat lR)), .unset, .unset, .unset, .unset, .unset, .unset, .unset, .unset, .unset, .unset, .unset, .unset, .unset, .unset, .unset, .unset] [(.int (0 : Int32))]))
      have eJ : own_b (¬ (p4 &&& (1024 : Int32)) = (0 : Int32)) = 0 := own_bf (fun q => q hc82_10)
      rw [eJ] at kJ
      exact kJ
    · refine GoW.on (fun t k => XS.ifNo X0.here hx rfl (hb hby at_82) rfl ((if0 _ _).trans (feq hc82_10).1) k) ?_
      show GoW p.tables e below s _ _ _ _ _ (s₁.setTop (mkF m 85 #[.val (.int p1), .val (.int p2), .val (.int p3), .val (.int p4), .val (.int bT), .val (.int bC), .val (.int (Int32.ofNat lT)), .val (.int (Int32.ofNat lC)), .val (.int nT), .val (.int nC), .val (.int (Int32.ofNat lR)), .unset, .unset, .unset, .unset, .unset, .unset, .unset, .unset, .unset, .unset, .unset, .unset, .unset, .unset, .unset, .unset] []))
      refine GoW.on (fun t k => XS.iconst X0.here hx rfl (hb hby at_85) (XS.goto X0.here hx rfl (pc0 := 86) (pc' := 90) rfl (hb hby at_86) (by decide) (by decide) k)) ?_
      show GoW p.tables e below s _ _ _ _ _ (s₁.setTop (mkF m 90 #[.val (.int p1), .val (.int p2), .val (.int p3), .val (.int p4), .val (.int bT), .val (.int bC), .val (.int (Int32.ofNat lT)), .val (.int (Int32.ofNat lC)), .val (.int nT), .val (.int nC), .val (.int (Int32.ofNat lR)), .unset, .unset, .unset, .unset, .unset, .unset, .unset, .unset, .unset, .unset, .unset, .unset, .unset, .unset, .unset, .unset] [(.int (1 : Int32))]))
      have eJ : own_b (¬ (p4 &&& (1024 : Int32)) = (0 : Int32)) = 1 := own_bt hc82_10
      rw [eJ] at kJ
      exact kJ
  refine J9 ?_
  show GoW p.tables e below s _ _ _ _ _ (s₁.setTop (mkF m 90 #[.val (.int p1), .val (.int p2), .val (.int p3), .val (.int p4), .val (.int bT), .val (.int bC), .val (.int (Int32.ofNat lT)), .val (.int (Int32.ofNat lC)), .val (.int nT), .val (.int nC), .val (.int (Int32.ofNat lR)), .unset, .unset, .unset, .unset, .unset, .unset, .unset, .unset, .unset, .unset, .unset, .unset, .unset, .unset, .unset, .unset] [(.int (own_b (¬ (p4 &&& (1024 : Int32)) = (0 : Int32))))]))
  obtain ⟨cp, hcp⟩ : ∃ z, z = (own_b (¬ (p4 &&& (1024 : Int32)) = (0 : Int32))) := ⟨_, rfl⟩
  rw [← hcp]
  refine GoW.on (fun t k => XS.istore X0.here hx rfl (hb hby at_90) rfl (l' := #[.val (.int p1), .val (.int p2), .val (.int p3), .val (.int p4), .val (.int bT), .val (.int bC), .val (.int (Int32.ofNat lT)), .val (.int (Int32.ofNat lC)), .val (.int nT), .val (.int nC), .val (.int (Int32.ofNat lR)), .val (.int cp), .unset, .unset, .unset, .unset, .unset, .unset, .unset, .unset, .unset, .unset, .unset, .unset, .unset, .unset, .unset]) rfl (XS.iloadN X0.here hx rfl (hb hby at_92) rfl (XS.iload X0.here hx rfl (hb hby at_93) rfl k))) ?_
  show GoW p.tables e below s _ _ _ _ _ (s₁.setTop (mkF m 95 #[.val (.int p1), .val (.int p2), .val (.int p3), .val (.int p4), .val (.int bT), .val (.int bC), .val (.int (Int32.ofNat lT)), .val (.int (Int32.ofNat lC)), .val (.int nT), .val (.int nC), .val (.int (Int32.ofNat lR)), .val (.int cp), .unset, .unset, .unset, .unset, .unset, .unset, .unset, .unset, .unset, .unset, .unset, .unset, .unset, .unset, .unset] [(.int bT), (.int p1)]))
  obtain ⟨_, _, ⟨T11, L11, k11, n11⟩, -, X11, ⟨Lc11, hQ11, l11, y11, z11⟩, st11⟩ := Jvm.LawKit.callS X0 hx (y := (⟨"com/example/rhythmwire/rhythmwire/idc/CommonSegmentsIsReportPinLaw", "ch", "(IZ)C"⟩ : MethodName)) hown (mvT hZ (hw _ (List.mem_of_getElem? (i := 0) rfl))) (mvT hZ (hw _ (List.mem_of_getElem? (i := 1) rfl))) (mvT hZ (hw _ (List.mem_of_getElem? (i := 2) rfl))) (mvT hZ (hw _ (List.mem_of_getElem? (i := 3) rfl))) (by decide) (backOf (W := 0) (rm1 l Z a0 hw [] p1 bT h0 n0 Z0 ) hZ (hw _ (List.mem_of_getElem? (i := 3) rfl)) (hw _ (List.mem_of_getElem? (i := 2) rfl)) (by decide) (by decide)) (g := (mkF m 95 #[.val (.int p1), .val (.int p2), .val (.int p3), .val (.int p4), .val (.int bT), .val (.int bC), .val (.int (Int32.ofNat lT)), .val (.int (Int32.ofNat lC)), .val (.int nT), .val (.int nC), .val (.int (Int32.ofNat lR)), .val (.int cp), .unset, .unset, .unset, .unset, .unset, .unset, .unset, .unset, .unset, .unset, .unset, .unset, .unset, .unset, .unset] [(.int bT), (.int p1)])) rfl (by rw [hml]; rfl) (argsL := [(.int p1), (.int bT)]) (rest := []) (lenOf pd__40_IZ_41_C rfl) rfl (by show 2 * 0 + _ ≤ _; exact Nat.le_of_eq rfl) (hb hby at_95) (fun _ _ => ⟨rfl, e0, (by decide : 0 + 0 ≤ _), (by decide : 0 + 0 ≤ _)⟩)
  dsimp only [Pt.U, Pt.locs, Pt.cells, Pt.slots] at X11 l11 y11 z11 st11 hQ11
  rw [l11, y11, z11] at X11
  obtain ⟨r11, rfl, Nq11, e11, P11_0⟩ := hQ11
  have Np12 := Fr.app N0 Nq11
  refine GoW.on st11 ?_
  show GoW p.tables e below s _ _ _ _ _ (T11.setTop (mkF m 98 #[.val (.int p1), .val (.int p2), .val (.int p3), .val (.int p4), .val (.int bT), .val (.int bC), .val (.int (Int32.ofNat lT)), .val (.int (Int32.ofNat lC)), .val (.int nT), .val (.int nC), .val (.int (Int32.ofNat lR)), .val (.int cp), .unset, .unset, .unset, .unset, .unset, .unset, .unset, .unset, .unset, .unset, .unset, .unset, .unset, .unset, .unset] [(.int r11)]))
  refine GoW.on (fun t k => XS.istore X11.here hx rfl (hb hby at_98) rfl (l' := #[.val (.int p1), .val (.int p2), .val (.int p3), .val (.int p4), .val (.int bT), .val (.int bC), .val (.int (Int32.ofNat lT)), .val (.int (Int32.ofNat lC)), .val (.int nT), .val (.int nC), .val (.int (Int32.ofNat lR)), .val (.int cp), .val (.int r11), .unset, .unset, .unset, .unset, .unset, .unset, .unset, .unset, .unset, .unset, .unset, .unset, .unset, .unset]) rfl (XS.iloadN X11.here hx rfl (hb hby at_100) rfl (XS.bipush X11.here hx rfl (hb hby at_101) (XS.iushr X11.here hx rfl (hb hby at_103) rfl (XS.iload X11.here hx rfl (hb hby at_104) rfl k))))) ?_
  show GoW p.tables e below s _ _ _ _ _ (T11.setTop (mkF m 106 #[.val (.int p1), .val (.int p2), .val (.int p3), .val (.int p4), .val (.int bT), .val (.int bC), .val (.int (Int32.ofNat lT)), .val (.int (Int32.ofNat lC)), .val (.int nT), .val (.int nC), .val (.int (Int32.ofNat lR)), .val (.int cp), .val (.int r11), .unset, .unset, .unset, .unset, .unset, .unset, .unset, .unset, .unset, .unset, .unset, .unset, .unset, .unset] [(.int bT), (.int ((p1.toUInt32 >>> ((8 : Int32) &&& 31).toUInt32).toInt32))]))
  obtain ⟨_, _, ⟨T13, L13, k13, n13⟩, -, X13, ⟨Lc13, hQ13, l13, y13, z13⟩, st13⟩ := Jvm.LawKit.callS X11 hx (y := (⟨"com/example/rhythmwire/rhythmwire/idc/CommonSegmentsIsReportPinLaw", "ch", "(IZ)C"⟩ : MethodName)) hown (mvT hZ (hw _ (List.mem_of_getElem? (i := 0) rfl))) (mvT hZ (hw _ (List.mem_of_getElem? (i := 1) rfl))) (mvT hZ (hw _ (List.mem_of_getElem? (i := 2) rfl))) (mvT hZ (hw _ (List.mem_of_getElem? (i := 3) rfl))) (by decide) (backOf (W := 0) (rm1 l Z a0 hw [] ((p1.toUInt32 >>> ((8 : Int32) &&& 31).toUInt32).toInt32) bT h0 n0 Z0 ) hZ (hw _ (List.mem_of_getElem? (i := 3) rfl)) (hw _ (List.mem_of_getElem? (i := 2) rfl)) (by decide) (by decide)) (g := (mkF m 106 #[.val (.int p1), .val (.int p2), .val (.int p3), .val (.int p4), .val (.int bT), .val (.int bC), .val (.int (Int32.ofNat lT)), .val (.int (Int32.ofNat lC)), .val (.int nT), .val (.int nC), .val (.int (Int32.ofNat lR)), .val (.int cp), .val (.int r11), .unset, .unset, .unset, .unset, .unset, .unset, .unset, .unset, .unset, .unset, .unset, .unset, .unset, .unset] [(.int bT), (.int ((p1.toUInt32 >>> ((8 : Int32) &&& 31).toUInt32).toInt32))])) rfl (by rw [hml]; rfl) (argsL := [(.int ((p1.toUInt32 >>> ((8 : Int32) &&& 31).toUInt32).toInt32)), (.int bT)]) (rest := []) (lenOf pd__40_IZ_41_C rfl) rfl (by show 2 * 0 + _ ≤ _; exact Nat.le_of_eq rfl) (hb hby at_106) (fun _ _ => ⟨rfl, e11, (by decide : (0 + 0) + 0 ≤ _), (by decide : (0 + 0) + 0 ≤ _)⟩)
  dsimp only [Pt.U, Pt.locs, Pt.cells, Pt.slots] at X13 l13 y13 z13 st13 hQ13
  rw [l13, y13, z13] at X13
  obtain ⟨r13, rfl, Nq13, e13, P13_0⟩ := hQ13
  have Np14 := Fr.app Np12 Nq13
  refine GoW.on st13 ?_
  show GoW p.tables e below s _ _ _ _ _ (T13.setTop (mkF m 109 #[.val (.int p1), .val (.int p2), .val (.int p3), .val (.int p4), .val (.int bT), .val (.int bC), .val (.int (Int32.ofNat lT)), .val (.int (Int32.ofNat lC)), .val (.int nT), .val (.int nC), .val (.int (Int32.ofNat lR)), .val (.int cp), .val (.int r11), .unset, .unset, .unset, .unset, .unset, .unset, .unset, .unset, .unset, .unset, .unset, .unset, .unset, .unset] [(.int r13)]))
  refine GoW.on (fun t k => XS.istore X13.here hx rfl (hb hby at_109) rfl (l' := #[.val (.int p1), .val (.int p2), .val (.int p3), .val (.int p4), .val (.int bT), .val (.int bC), .val (.int (Int32.ofNat lT)), .val (.int (Int32.ofNat lC)), .val (.int nT), .val (.int nC), .val (.int (Int32.ofNat lR)), .val (.int cp), .val (.int r11), .val (.int r13), .unset, .unset, .unset, .unset, .unset, .unset, .unset, .unset, .unset, .unset, .unset, .unset, .unset]) rfl (XS.iloadN X13.here hx rfl (hb hby at_111) rfl (XS.bipush X13.here hx rfl (hb hby at_112) (XS.iushr X13.here hx rfl (hb hby at_114) rfl (XS.iload X13.here hx rfl (hb hby at_115) rfl k))))) ?_
  show GoW p.tables e below s _ _ _ _ _ (T13.setTop (mkF m 117 #[.val (.int p1), .val (.int p2), .val (.int p3), .val (.int p4), .val (.int bT), .val (.int bC), .val (.int (Int32.ofNat lT)), .val (.int (Int32.ofNat lC)), .val (.int nT), .val (.int nC), .val (.int (Int32.ofNat lR)), .val (.int cp), .val (.int r11), .val (.int r13), .unset, .unset, .unset, .unset, .unset, .unset, .unset, .unset, .unset, .unset, .unset, .unset, .unset] [(.int bT), (.int ((p1.toUInt32 >>> ((16 : Int32) &&& 31).toUInt32).toInt32))]))
  obtain ⟨_, _, ⟨T15, L15, k15, n15⟩, -, X15, ⟨Lc15, hQ15, l15, y15, z15⟩, st15⟩ := Jvm.LawKit.callS X13 hx (y := (⟨"com/example/rhythmwire/rhythmwire/idc/CommonSegmentsIsReportPinLaw", "ch", "(IZ)C"⟩ : MethodName)) hown (mvT hZ (hw _ (List.mem_of_getElem? (i := 0) rfl))) (mvT hZ (hw _ (List.mem_of_getElem? (i := 1) rfl))) (mvT hZ (hw _ (List.mem_of_getElem? (i := 2) rfl))) (mvT hZ (hw _ (List.mem_of_getElem? (i := 3) rfl))) (by decide) (backOf (W := 0) (rm1 l Z a0 hw [] ((p1.toUInt32 >>> ((16 : Int32) &&& 31).toUInt32).toInt32) bT h0 n0 Z0 ) hZ (hw _ (List.mem_of_getElem? (i := 3) rfl)) (hw _ (List.mem_of_getElem? (i := 2) rfl)) (by decide) (by decide)) (g := (mkF m 117 #[.val (.int p1), .val (.int p2), .val (.int p3), .val (.int p4), .val (.int bT), .val (.int bC), .val (.int (Int32.ofNat lT)), .val (.int (Int32.ofNat lC)), .val (.int nT), .val (.int nC), .val (.int (Int32.ofNat lR)), .val (.int cp), .val (.int r11), .val (.int r13), .unset, .unset, .unset, .unset, .unset, .unset, .unset, .unset, .unset, .unset, .unset, .unset, .unset] [(.int bT), (.int ((p1.toUInt32 >>> ((16 : Int32) &&& 31).toUInt32).toInt32))])) rfl (by rw [hml]; rfl) (argsL := [(.int ((p1.toUInt32 >>> ((16 : Int32) &&& 31).toUInt32).toInt32)), (.int bT)]) (rest := []) (lenOf pd__40_IZ_41_C rfl) rfl (by show 2 * 0 + _ ≤ _; exact Nat.le_of_eq rfl) (hb hby at_117) (fun _ _ => ⟨rfl, e13, (by decide : ((0 + 0) + 0) + 0 ≤ _), (by decide : ((0 + 0) + 0) + 0 ≤ _)⟩)
  dsimp only [Pt.U, Pt.locs, Pt.cells, Pt.slots] at X15 l15 y15 z15 st15 hQ15
  rw [l15, y15, z15] at X15
  obtain ⟨r15, rfl, Nq15, e15, P15_0⟩ := hQ15
  have Np16 := Fr.app Np14 Nq15
  refine GoW.on st15 ?_
  show GoW p.tables e below s _ _ _ _ _ (T15.setTop (mkF m 120 #[.val (.int p1), .val (.int p2), .val (.int p3), .val (.int p4), .val (.int bT), .val (.int bC), .val (.int (Int32.ofNat lT)), .val (.int (Int32.ofNat lC)), .val (.int nT), .val (.int nC), .val (.int (Int32.ofNat lR)), .val (.int cp), .val (.int r11), .val (.int r13), .unset, .unset, .unset, .unset, .unset, .unset, .unset, .unset, .unset, .unset, .unset, .unset, .unset] [(.int r15)]))
  refine GoW.on (fun t k => XS.istore X15.here hx rfl (hb hby at_120) rfl (l' := #[.val (.int p1), .val (.int p2), .val (.int p3), .val (.int p4), .val (.int bT), .val (.int bC), .val (.int (Int32.ofNat lT)), .val (.int (Int32.ofNat lC)), .val (.int nT), .val (.int nC), .val (.int (Int32.ofNat lR)), .val (.int cp), .val (.int r11), .val (.int r13), .val (.int r15), .unset, .unset, .unset, .unset, .unset, .unset, .unset, .unset, .unset, .unset, .unset, .unset]) rfl (XS.iloadN X15.here hx rfl (hb hby at_122) rfl (XS.iload X15.here hx rfl (hb hby at_123) rfl k))) ?_
  show GoW p.tables e below s _ _ _ _ _ (T15.setTop (mkF m 125 #[.val (.int p1), .val (.int p2), .val (.int p3), .val (.int p4), .val (.int bT), .val (.int bC), .val (.int (Int32.ofNat lT)), .val (.int (Int32.ofNat lC)), .val (.int nT), .val (.int nC), .val (.int (Int32.ofNat lR)), .val (.int cp), .val (.int r11), .val (.int r13), .val (.int r15), .unset, .unset, .unset, .unset, .unset, .unset, .unset, .unset, .unset, .unset, .unset, .unset] [(.int bC), (.int p2)]))
  obtain ⟨_, _, ⟨T17, L17, k17, n17⟩, -, X17, ⟨Lc17, hQ17, l17, y17, z17⟩, st17⟩ := Jvm.LawKit.callS X15 hx (y := (⟨"com/example/rhythmwire/rhythmwire/idc/CommonSegmentsIsReportPinLaw", "ch", "(IZ)C"⟩ : MethodName)) hown (mvT hZ (hw _ (List.mem_of_getElem? (i := 0) rfl))) (mvT hZ (hw _ (List.mem_of_getElem? (i := 1) rfl))) (mvT hZ (hw _ (List.mem_of_getElem? (i := 2) rfl))) (mvT hZ (hw _ (List.mem_of_getElem? (i := 3) rfl))) (by decide) (backOf (W := 0) (rm1 l Z a0 hw [] p2 bC h0 n0 Z0 ) hZ (hw _ (List.mem_of_getElem? (i := 3) rfl)) (hw _ (List.mem_of_getElem? (i := 2) rfl)) (by decide) (by decide)) (g := (mkF m 125 #[.val (.int p1), .val (.int p2), .val (.int p3), .val (.int p4), .val (.int bT), .val (.int bC), .val (.int (Int32.ofNat lT)), .val (.int (Int32.ofNat lC)), .val (.int nT), .val (.int nC), .val (.int (Int32.ofNat lR)), .val (.int cp), .val (.int r11), .val (.int r13), .val (.int r15), .unset, .unset, .unset, .unset, .unset, .unset, .unset, .unset, .unset, .unset, .unset, .unset] [(.int bC), (.int p2)])) rfl (by rw [hml]; rfl) (argsL := [(.int p2), (.int bC)]) (rest := []) (lenOf pd__40_IZ_41_C rfl) rfl (by show 2 * 0 + _ ≤ _; exact Nat.le_of_eq rfl) (hb hby at_125) (fun _ _ => ⟨rfl, e15, (by decide : (((0 + 0) + 0) + 0) + 0 ≤ _), (by decide : (((0 + 0) + 0) + 0) + 0 ≤ _)⟩)
  dsimp only [Pt.U, Pt.locs, Pt.cells, Pt.slots] at X17 l17 y17 z17 st17 hQ17
  rw [l17, y17, z17] at X17
  obtain ⟨r17, rfl, Nq17, e17, P17_0⟩ := hQ17
  have Np18 := Fr.app Np16 Nq17
  refine GoW.on st17 ?_
  show GoW p.tables e below s _ _ _ _ _ (T17.setTop (mkF m 128 #[.val (.int p1), .val (.int p2), .val (.int p3), .val (.int p4), .val (.int bT), .val (.int bC), .val (.int (Int32.ofNat lT)), .val (.int (Int32.ofNat lC)), .val (.int nT), .val (.int nC), .val (.int (Int32.ofNat lR)), .val (.int cp), .val (.int r11), .val (.int r13), .val (.int r15), .unset, .unset, .unset, .unset, .unset, .unset, .unset, .unset, .unset, .unset, .unset, .unset] [(.int r17)]))
  refine GoW.on (fun t k => XS.istore X17.here hx rfl (hb hby at_128) rfl (l' := #[.val (.int p1), .val (.int p2), .val (.int p3), .val (.int p4), .val (.int bT), .val (.int bC), .val (.int (Int32.ofNat lT)), .val (.int (Int32.ofNat lC)), .val (.int nT), .val (.int nC), .val (.int (Int32.ofNat lR)), .val (.int cp), .val (.int r11), .val (.int r13), .val (.int r15), .val (.int r17), .unset, .unset, .unset, .unset, .unset, .unset, .unset, .unset, .unset, .unset, .unset]) rfl (XS.iloadN X17.here hx rfl (hb hby at_130) rfl (XS.bipush X17.here hx rfl (hb hby at_131) (XS.iushr X17.here hx rfl (hb hby at_133) rfl (XS.iload X17.here hx rfl (hb hby at_134) rfl k))))) ?_
  show GoW p.tables e below s _ _ _ _ _ (T17.setTop (mkF m 136 #[.val (.int p1), .val (.int p2), .val (.int p3), .val (.int p4), .val (.int bT), .val (.int bC), .val (.int (Int32.ofNat lT)), .val (.int (Int32.ofNat lC)), .val (.int nT), .val (.int nC), .val (.int (Int32.ofNat lR)), .val (.int cp), .val (.int r11), .val (.int r13), .val (.int r15), .val (.int r17), .unset, .unset, .unset, .unset, .unset, .unset, .unset, .unset, .unset, .unset, .unset] [(.int bC), (.int ((p2.toUInt32 >>> ((8 : Int32) &&& 31).toUInt32).toInt32))]))
  obtain ⟨_, _, ⟨T19, L19, k19, n19⟩, -, X19, ⟨Lc19, hQ19, l19, y19, z19⟩, st19⟩ := Jvm.LawKit.callS X17 hx (y := (⟨"com/example/rhythmwire/rhythmwire/idc/CommonSegmentsIsReportPinLaw", "ch", "(IZ)C"⟩ : MethodName)) hown (mvT hZ (hw _ (List.mem_of_getElem? (i := 0) rfl))) (mvT hZ (hw _ (List.mem_of_getElem? (i := 1) rfl))) (mvT hZ (hw _ (List.mem_of_getElem? (i := 2) rfl))) (mvT hZ (hw _ (List.mem_of_getElem? (i := 3) rfl))) (by decide) (backOf (W := 0) (rm1 l Z a0 hw [] ((p2.toUInt32 >>> ((8 : Int32) &&& 31).toUInt32).toInt32) bC h0 n0 Z0 ) hZ (hw _ (List.mem_of_getElem? (i := 3) rfl)) (hw _ (List.mem_of_getElem? (i := 2) rfl)) (by decide) (by decide)) (g := (mkF m 136 #[.val (.int p1), .val (.int p2), .val (.int p3), .val (.int p4), .val (.int bT), .val (.int bC), .val (.int (Int32.ofNat lT)), .val (.int (Int32.ofNat lC)), .val (.int nT), .val (.int nC), .val (.int (Int32.ofNat lR)), .val (.int cp), .val (.int r11), .val (.int r13), .val (.int r15), .val (.int r17), .unset, .unset, .unset, .unset, .unset, .unset, .unset, .unset, .unset, .unset, .unset] [(.int bC), (.int ((p2.toUInt32 >>> ((8 : Int32) &&& 31).toUInt32).toInt32))])) rfl (by rw [hml]; rfl) (argsL := [(.int ((p2.toUInt32 >>> ((8 : Int32) &&& 31).toUInt32).toInt32)), (.int bC)]) (rest := []) (lenOf pd__40_IZ_41_C rfl) rfl (by show 2 * 0 + _ ≤ _; exact Nat.le_of_eq rfl) (hb hby at_136) (fun _ _ => ⟨rfl, e17, (by decide : ((((0 + 0) + 0) + 0) + 0) + 0 ≤ _), (by decide : ((((0 + 0) + 0) + 0) + 0) + 0 ≤ _)⟩)
  dsimp only [Pt.U, Pt.locs, Pt.cells, Pt.slots] at X19 l19 y19 z19 st19 hQ19
  rw [l19, y19, z19] at X19
  obtain ⟨r19, rfl, Nq19, e19, P19_0⟩ := hQ19
  have Np20 := Fr.app Np18 Nq19
  refine GoW.on st19 ?_
  show GoW p.tables e below s _ _ _ _ _ (T19.setTop (mkF m 139 #[.val (.int p1), .val (.int p2), .val (.int p3), .val (.int p4), .val (.int bT), .val (.int bC), .val (.int (Int32.ofNat lT)), .val (.int (Int32.ofNat lC)), .val (.int nT), .val (.int nC), .val (.int (Int32.ofNat lR)), .val (.int cp), .val (.int r11), .val (.int r13), .val (.int r15), .val (.int r17), .unset, .unset, .unset, .unset, .unset, .unset, .unset, .unset, .unset, .unset, .unset] [(.int r19)]))
  refine GoW.on (fun t k => XS.istore X19.here hx rfl (hb hby at_139) rfl (l' := #[.val (.int p1), .val (.int p2), .val (.int p3), .val (.int p4), .val (.int bT), .val (.int bC), .val (.int (Int32.ofNat lT)), .val (.int (Int32.ofNat lC)), .val (.int nT), .val (.int nC), .val (.int (Int32.ofNat lR)), .val (.int cp), .val (.int r11), .val (.int r13), .val (.int r15), .val (.int r17), .val (.int r19), .unset, .unset, .unset, .unset, .unset, .unset, .unset, .unset, .unset, .unset]) rfl (XS.iloadN X19.here hx rfl (hb hby at_141) rfl (XS.bipush X19.here hx rfl (hb hby at_142) (XS.iushr X19.here hx rfl (hb hby at_144) rfl (XS.iload X19.here hx rfl (hb hby at_145) rfl k))))) ?_
  show GoW p.tables e below s _ _ _ _ _ (T19.setTop (mkF m 147 #[.val (.int p1), .val (.int p2), .val (.int p3), .val (.int p4), .val (.int bT), .val (.int bC), .val (.int (Int32.ofNat lT)), .val (.int (Int32.ofNat lC)), .val (.int nT), .val (.int nC), .val (.int (Int32.ofNat lR)), .val (.int cp), .val (.int r11), .val (.int r13), .val (.int r15), .val (.int r17), .val (.int r19), .unset, .unset, .unset, .unset, .unset, .unset, .unset, .unset, .unset, .unset] [(.int bC), (.int ((p2.toUInt32 >>> ((16 : Int32) &&& 31).toUInt32).toInt32))]))
  obtain ⟨_, _, ⟨T21, L21, k21, n21⟩, -, X21, ⟨Lc21, hQ21, l21, y21, z21⟩, st21⟩ := Jvm.LawKit.callS X19 hx (y := (⟨"com/example/rhythmwire/rhythmwire/idc/CommonSegmentsIsReportPinLaw", "ch", "(IZ)C"⟩ : MethodName)) hown (mvT hZ (hw _ (List.mem_of_getElem? (i := 0) rfl))) (mvT hZ (hw _ (List.mem_of_getElem? (i := 1) rfl))) (mvT hZ (hw _ (List.mem_of_getElem? (i := 2) rfl))) (mvT hZ (hw _ (List.mem_of_getElem? (i := 3) rfl))) (by decide) (backOf (W := 0) (rm1 l Z a0 hw [] ((p2.toUInt32 >>> ((16 : Int32) &&& 31).toUInt32).toInt32) bC h0 n0 Z0 ) hZ (hw _ (List.mem_of_getElem? (i := 3) rfl)) (hw _ (List.mem_of_getElem? (i := 2) rfl)) (by decide) (by decide)) (g := (mkF m 147 #[.val (.int p1), .val (.int p2), .val (.int p3), .val (.int p4), .val (.int bT), .val (.int bC), .val (.int (Int32.ofNat lT)), .val (.int (Int32.ofNat lC)), .val (.int nT), .val (.int nC), .val (.int (Int32.ofNat lR)), .val (.int cp), .val (.int r11), .val (.int r13), .val (.int r15), .val (.int r17), .val (.int r19), .unset, .unset, .unset, .unset, .unset, .unset, .unset, .unset, .unset, .unset] [(.int bC), (.int ((p2.toUInt32 >>> ((16 : Int32) &&& 31).toUInt32).toInt32))])) rfl (by rw [hml]; rfl) (argsL := [(.int ((p2.toUInt32 >>> ((16 : Int32) &&& 31).toUInt32).toInt32)), (.int bC)]) (rest := []) (lenOf pd__40_IZ_41_C rfl) rfl (by show 2 * 0 + _ ≤ _; exact Nat.le_of_eq rfl) (hb hby at_147) (fun _ _ => ⟨rfl, e19, (by decide : (((((0 + 0) + 0) + 0) + 0) + 0) + 0 ≤ _), (by decide : (((((0 + 0) + 0) + 0) + 0) + 0) + 0 ≤ _)⟩)
  dsimp only [Pt.U, Pt.locs, Pt.cells, Pt.slots] at X21 l21 y21 z21 st21 hQ21
  rw [l21, y21, z21] at X21
  obtain ⟨r21, rfl, Nq21, e21, P21_0⟩ := hQ21
  have Np22 := Fr.app Np20 Nq21
  refine GoW.on st21 ?_
  show GoW p.tables e below s _ _ _ _ _ (T21.setTop (mkF m 150 #[.val (.int p1), .val (.int p2), .val (.int p3), .val (.int p4), .val (.int bT), .val (.int bC), .val (.int (Int32.ofNat lT)), .val (.int (Int32.ofNat lC)), .val (.int nT), .val (.int nC), .val (.int (Int32.ofNat lR)), .val (.int cp), .val (.int r11), .val (.int r13), .val (.int r15), .val (.int r17), .val (.int r19), .unset, .unset, .unset, .unset, .unset, .unset, .unset, .unset, .unset, .unset] [(.int r21)]))
  refine GoW.on (fun t k => XS.istore X21.here hx rfl (hb hby at_150) rfl (l' := #[.val (.int p1), .val (.int p2), .val (.int p3), .val (.int p4), .val (.int bT), .val (.int bC), .val (.int (Int32.ofNat lT)), .val (.int (Int32.ofNat lC)), .val (.int nT), .val (.int nC), .val (.int (Int32.ofNat lR)), .val (.int cp), .val (.int r11), .val (.int r13), .val (.int r15), .val (.int r17), .val (.int r19), .val (.int r21), .unset, .unset, .unset, .unset, .unset, .unset, .unset, .unset, .unset]) rfl (XS.iload X21.here hx rfl (hb hby at_152) rfl k)) ?_
  show GoW p.tables e below s _ _ _ _ _ (T21.setTop (mkF m 154 #[.val (.int p1), .val (.int p2), .val (.int p3), .val (.int p4), .val (.int bT), .val (.int bC), .val (.int (Int32.ofNat lT)), .val (.int (Int32.ofNat lC)), .val (.int nT), .val (.int nC), .val (.int (Int32.ofNat lR)), .val (.int cp), .val (.int r11), .val (.int r13), .val (.int r15), .val (.int r17), .val (.int r19), .val (.int r21), .unset, .unset, .unset, .unset, .unset, .unset, .unset, .unset, .unset] [(.int cp)]))
  by_cases hcp : cp = (0 : Int32)
  · refine GoW.on (fun t k => XS.ifYes X21.here hx rfl (pc0 := 154) (pc' := 162) rfl (hb hby at_154) rfl ((if0 _ _).trans (teq hcp).1) (by decide) (by decide) k) ?_
    show GoW p.tables e below s _ _ _ _ _ (T21.setTop (mkF m 162 #[.val (.int p1), .val (.int p2), .val (.int p3), .val (.int p4), .val (.int bT), .val (.int bC), .val (.int (Int32.ofNat lT)), .val (.int (Int32.ofNat lC)), .val (.int nT), .val (.int nC), .val (.int (Int32.ofNat lR)), .val (.int cp), .val (.int r11), .val (.int r13), .val (.int r15), .val (.int r17), .val (.int r19), .val (.int r21), .unset, .unset, .unset, .unset, .unset, .unset, .unset, .unset, .unset] []))
    refine GoW.on (fun t k => XS.iload X21.here hx rfl (hb hby at_162) rfl (XS.istore X21.here hx rfl (hb hby at_164) rfl (l' := #[.val (.int p1), .val (.int p2), .val (.int p3), .val (.int p4), .val (.int bT), .val (.int bC), .val (.int (Int32.ofNat lT)), .val (.int (Int32.ofNat lC)), .val (.int nT), .val (.int nC), .val (.int (Int32.ofNat lR)), .val (.int cp), .val (.int r11), .val (.int r13), .val (.int r15), .val (.int r17), .val (.int r19), .val (.int r21), .val (.int (Int32.ofNat lR)), .unset, .unset, .unset, .unset, .unset, .unset, .unset, .unset]) rfl (XS.iload X21.here hx rfl (hb hby at_166) rfl k))) ?_
    show GoW p.tables e below s _ _ _ _ _ (T21.setTop (mkF m 168 #[.val (.int p1), .val (.int p2), .val (.int p3), .val (.int p4), .val (.int bT), .val (.int bC), .val (.int (Int32.ofNat lT)), .val (.int (Int32.ofNat lC)), .val (.int nT), .val (.int nC), .val (.int (Int32.ofNat lR)), .val (.int cp), .val (.int r11), .val (.int r13), .val (.int r15), .val (.int r17), .val (.int r19), .val (.int r21), .val (.int (Int32.ofNat lR)), .unset, .unset, .unset, .unset, .unset, .unset, .unset, .unset] [(.int cp)]))
    refine GoW.on (fun t k => XS.ifYes X21.here hx rfl (pc0 := 168) (pc' := 176) rfl (hb hby at_168) rfl ((if0 _ _).trans (teq hcp).1) (by decide) (by decide) k) ?_
    show GoW p.tables e below s _ _ _ _ _ (T21.setTop (mkF m 176 #[.val (.int p1), .val (.int p2), .val (.int p3), .val (.int p4), .val (.int bT), .val (.int bC), .val (.int (Int32.ofNat lT)), .val (.int (Int32.ofNat lC)), .val (.int nT), .val (.int nC), .val (.int (Int32.ofNat lR)), .val (.int cp), .val (.int r11), .val (.int r13), .val (.int r15), .val (.int r17), .val (.int r19), .val (.int r21), .val (.int (Int32.ofNat lR)), .unset, .unset, .unset, .unset, .unset, .unset, .unset, .unset] []))
    refine GoW.on (fun t k => XS.iloadN X21.here hx rfl (hb hby at_176) rfl (XS.iload X21.here hx rfl (hb hby at_177) rfl k)) ?_
    show GoW p.tables e below s _ _ _ _ _ (T21.setTop (mkF m 179 #[.val (.int p1), .val (.int p2), .val (.int p3), .val (.int p4), .val (.int bT), .val (.int bC), .val (.int (Int32.ofNat lT)), .val (.int (Int32.ofNat lC)), .val (.int nT), .val (.int nC), .val (.int (Int32.ofNat lR)), .val (.int cp), .val (.int r11), .val (.int r13), .val (.int r15), .val (.int r17), .val (.int r19), .val (.int r21), .val (.int (Int32.ofNat lR)), .unset, .unset, .unset, .unset, .unset, .unset, .unset, .unset] [(.int bC), (.int p3)]))
    obtain ⟨_, _, ⟨T23, L23, k23, n23⟩, -, X23, ⟨Lc23, hQ23, l23, y23, z23⟩, st23⟩ := Jvm.LawKit.callS X21 hx (y := (⟨"com/example/rhythmwire/rhythmwire/idc/CommonSegmentsIsReportPinLaw", "ch", "(IZ)C"⟩ : MethodName)) hown (mvT hZ (hw _ (List.mem_of_getElem? (i := 0) rfl))) (mvT hZ (hw _ (List.mem_of_getElem? (i := 1) rfl))) (mvT hZ (hw _ (List.mem_of_getElem? (i := 2) rfl))) (mvT hZ (hw _ (List.mem_of_getElem? (i := 3) rfl))) (by decide) (backOf (W := 0) (rm1 l Z a0 hw [] p3 bC h0 n0 Z0 ) hZ (hw _ (List.mem_of_getElem? (i := 3) rfl)) (hw _ (List.mem_of_getElem? (i := 2) rfl)) (by decide) (by decide)) (g := (mkF m 179 #[.val (.int p1), .val (.int p2), .val (.int p3), .val (.int p4), .val (.int bT), .val (.int bC), .val (.int (Int32.ofNat lT)), .val (.int (Int32.ofNat lC)), .val (.int nT), .val (.int nC), .val (.int (Int32.ofNat lR)), .val (.int cp), .val (.int r11), .val (.int r13), .val (.int r15), .val (.int r17), .val (.int r19), .val (.int r21), .val (.int (Int32.ofNat lR)), .unset, .unset, .unset, .unset, .unset, .unset, .unset, .unset] [(.int bC), (.int p3)])) rfl (by rw [hml]; rfl) (argsL := [(.int p3), (.int bC)]) (rest := []) (lenOf pd__40_IZ_41_C rfl) rfl (by show 2 * 0 + _ ≤ _; exact Nat.le_of_eq rfl) (hb hby at_179) (fun _ _ => ⟨rfl, e21, (by decide : ((((((0 + 0) + 0) + 0) + 0) + 0) + 0) + 0 ≤ _), (by decide : ((((((0 + 0) + 0) + 0) + 0) + 0) + 0) + 0 ≤ _)⟩)
    dsimp only [Pt.U, Pt.locs, Pt.cells, Pt.slots] at X23 l23 y23 z23 st23 hQ23
    rw [l23, y23, z23] at X23
    obtain ⟨r23, rfl, Nq23, e23, P23_0⟩ := hQ23
    have Np24 := Fr.app Np22 Nq23
    refine GoW.on st23 ?_
    show GoW p.tables e below s _ _ _ _ _ (T23.setTop (mkF m 182 #[.val (.int p1), .val (.int p2), .val (.int p3), .val (.int p4), .val (.int bT), .val (.int bC), .val (.int (Int32.ofNat lT)), .val (.int (Int32.ofNat lC)), .val (.int nT), .val (.int nC), .val (.int (Int32.ofNat lR)), .val (.int cp), .val (.int r11), .val (.int r13), .val (.int r15), .val (.int r17), .val (.int r19), .val (.int r21), .val (.int (Int32.ofNat lR)), .unset, .unset, .unset, .unset, .unset, .unset, .unset, .unset] [(.int r23)]))
    refine GoW.on (fun t k => XS.istore X23.here hx rfl (hb hby at_182) rfl (l' := #[.val (.int p1), .val (.int p2), .val (.int p3), .val (.int p4), .val (.int bT), .val (.int bC), .val (.int (Int32.ofNat lT)), .val (.int (Int32.ofNat lC)), .val (.int nT), .val (.int nC), .val (.int (Int32.ofNat lR)), .val (.int cp), .val (.int r11), .val (.int r13), .val (.int r15), .val (.int r17), .val (.int r19), .val (.int r21), .val (.int (Int32.ofNat lR)), .val (.int r23), .unset, .unset, .unset, .unset, .unset, .unset, .unset]) rfl (XS.iload X23.here hx rfl (hb hby at_184) rfl k)) ?_
    show GoW p.tables e below s _ _ _ _ _ (T23.setTop (mkF m 186 #[.val (.int p1), .val (.int p2), .val (.int p3), .val (.int p4), .val (.int bT), .val (.int bC), .val (.int (Int32.ofNat lT)), .val (.int (Int32.ofNat lC)), .val (.int nT), .val (.int nC), .val (.int (Int32.ofNat lR)), .val (.int cp), .val (.int r11), .val (.int r13), .val (.int r15), .val (.int r17), .val (.int r19), .val (.int r21), .val (.int (Int32.ofNat lR)), .val (.int r23), .unset, .unset, .unset, .unset, .unset, .unset, .unset] [(.int cp)]))
    refine GoW.on (fun t k => XS.ifYes X23.here hx rfl (pc0 := 186) (pc' := 194) rfl (hb hby at_186) rfl ((if0 _ _).trans (teq hcp).1) (by decide) (by decide) k) ?_
    show GoW p.tables e below s _ _ _ _ _ (T23.setTop (mkF m 194 #[.val (.int p1), .val (.int p2), .val (.int p3), .val (.int p4), .val (.int bT), .val (.int bC), .val (.int (Int32.ofNat lT)), .val (.int (Int32.ofNat lC)), .val (.int nT), .val (.int nC), .val (.int (Int32.ofNat lR)), .val (.int cp), .val (.int r11), .val (.int r13), .val (.int r15), .val (.int r17), .val (.int r19), .val (.int r21), .val (.int (Int32.ofNat lR)), .val (.int r23), .unset, .unset, .unset, .unset, .unset, .unset, .unset] []))
    refine GoW.on (fun t k => XS.iloadN X23.here hx rfl (hb hby at_194) rfl (XS.bipush X23.here hx rfl (hb hby at_195) (XS.iushr X23.here hx rfl (hb hby at_197) rfl (XS.iload X23.here hx rfl (hb hby at_198) rfl k)))) ?_
    show GoW p.tables e below s _ _ _ _ _ (T23.setTop (mkF m 200 #[.val (.int p1), .val (.int p2), .val (.int p3), .val (.int p4), .val (.int bT), .val (.int bC), .val (.int (Int32.ofNat lT)), .val (.int (Int32.ofNat lC)), .val (.int nT), .val (.int nC), .val (.int (Int32.ofNat lR)), .val (.int cp), .val (.int r11), .val (.int r13), .val (.int r15), .val (.int r17), .val (.int r19), .val (.int r21), .val (.int (Int32.ofNat lR)), .val (.int r23), .unset, .unset, .unset, .unset, .unset, .unset, .unset] [(.int bC), (.int ((p3.toUInt32 >>> ((8 : Int32) &&& 31).toUInt32).toInt32))]))
    obtain ⟨_, _, ⟨T25, L25, k25, n25⟩, -, X25, ⟨Lc25, hQ25, l25, y25, z25⟩, st25⟩ := Jvm.LawKit.callS X23 hx (y := (⟨"com/example/rhythmwire/rhythmwire/idc/CommonSegmentsIsReportPinLaw", "ch", "(IZ)C"⟩ : MethodName)) hown (mvT hZ (hw _ (List.mem_of_getElem? (i := 0) rfl))) (mvT hZ (hw _ (List.mem_of_getElem? (i := 1) rfl))) (mvT hZ (hw _ (List.mem_of_getElem? (i := 2) rfl))) (mvT hZ (hw _ (List.mem_of_getElem? (i := 3) rfl))) (by decide) (backOf (W := 0) (rm1 l Z a0 hw [] ((p3.toUInt32 >>> ((8 : Int32) &&& 31).toUInt32).toInt32) bC h0 n0 Z0 ) hZ (hw _ (List.mem_of_getElem? (i := 3) rfl)) (hw _ (List.mem_of_getElem? (i := 2) rfl)) (by decide) (by decide)) (g := (mkF m 200 #[.val (.int p1), .val (.int p2), .val (.int p3), .val (.int p4), .val (.int bT), .val (.int bC), .val (.int (Int32.ofNat lT)), .val (.int (Int32.ofNat lC)), .val (.int nT), .val (.int nC), .val (.int (Int32.ofNat lR)), .val (.int cp), .val (.int r11), .val (.int r13), .val (.int r15), .val (.int r17), .val (.int r19), .val (.int r21), .val (.int (Int32.ofNat lR)), .val (.int r23), .unset, .unset, .unset, .unset, .unset, .unset, .unset] [(.int bC), (.int ((p3.toUInt32 >>> ((8 : Int32) &&& 31).toUInt32).toInt32))])) rfl (by rw [hml]; rfl) (argsL := [(.int ((p3.toUInt32 >>> ((8 : Int32) &&& 31).toUInt32).toInt32)), (.int bC)]) (rest := []) (lenOf pd__40_IZ_41_C rfl) rfl (by show 2 * 0 + _ ≤ _; exact Nat.le_of_eq rfl) (hb hby at_200) (fun _ _ => ⟨rfl, e23, (by decide : (((((((0 + 0) + 0) + 0) + 0) + 0) + 0) + 0) + 0 ≤ _), (by decide : (((((((0 + 0) + 0) + 0) + 0) + 0) + 0) + 0) + 0 ≤ _)⟩)
    dsimp only [Pt.U, Pt.locs, Pt.cells, Pt.slots] at X25 l25 y25 z25 st25 hQ25
    rw [l25, y25, z25] at X25
    obtain ⟨r25, rfl, Nq25, e25, P25_0⟩ := hQ25
    have Np26 := Fr.app Np24 Nq25
    refine GoW.on st25 ?_
    show GoW p.tables e below s _ _ _ _ _ (T25.setTop (mkF m 203 #[.val (.int p1), .val (.int p2), .val (.int p3), .val (.int p4), .val (.int bT), .val (.int bC), .val (.int (Int32.ofNat lT)), .val (.int (Int32.ofNat lC)), .val (.int nT), .val (.int nC), .val (.int (Int32.ofNat lR)), .val (.int cp), .val (.int r11), .val (.int r13), .val (.int r15), .val (.int r17), .val (.int r19), .val (.int r21), .val (.int (Int32.ofNat lR)), .val (.int r23), .unset, .unset, .unset, .unset, .unset, .unset, .unset] [(.int r25)]))
    refine GoW.on (fun t k => XS.istore X25.here hx rfl (hb hby at_203) rfl (l' := #[.val (.int p1), .val (.int p2), .val (.int p3), .val (.int p4), .val (.int bT), .val (.int bC), .val (.int (Int32.ofNat lT)), .val (.int (Int32.ofNat lC)), .val (.int nT), .val (.int nC), .val (.int (Int32.ofNat lR)), .val (.int cp), .val (.int r11), .val (.int r13), .val (.int r15), .val (.int r17), .val (.int r19), .val (.int r21), .val (.int (Int32.ofNat lR)), .val (.int r23), .val (.int r25), .unset, .unset, .unset, .unset, .unset, .unset]) rfl (XS.iload X25.here hx rfl (hb hby at_205) rfl k)) ?_
    show GoW p.tables e below s _ _ _ _ _ (T25.setTop (mkF m 207 #[.val (.int p1), .val (.int p2), .val (.int p3), .val (.int p4), .val (.int bT), .val (.int bC), .val (.int (Int32.ofNat lT)), .val (.int (Int32.ofNat lC)), .val (.int nT), .val (.int nC), .val (.int (Int32.ofNat lR)), .val (.int cp), .val (.int r11), .val (.int r13), .val (.int r15), .val (.int r17), .val (.int r19), .val (.int r21), .val (.int (Int32.ofNat lR)), .val (.int r23), .val (.int r25), .unset, .unset, .unset, .unset, .unset, .unset] [(.int cp)]))
    refine GoW.on (fun t k => XS.ifYes X25.here hx rfl (pc0 := 207) (pc' := 215) rfl (hb hby at_207) rfl ((if0 _ _).trans (teq hcp).1) (by decide) (by decide) k) ?_
    show GoW p.tables e below s _ _ _ _ _ (T25.setTop (mkF m 215 #[.val (.int p1), .val (.int p2), .val (.int p3), .val (.int p4), .val (.int bT), .val (.int bC), .val (.int (Int32.ofNat lT)), .val (.int (Int32.ofNat lC)), .val (.int nT), .val (.int nC), .val (.int (Int32.ofNat lR)), .val (.int cp), .val (.int r11), .val (.int r13), .val (.int r15), .val (.int r17), .val (.int r19), .val (.int r21), .val (.int (Int32.ofNat lR)), .val (.int r23), .val (.int r25), .unset, .unset, .unset, .unset, .unset, .unset] []))
    refine GoW.on (fun t k => XS.iloadN X25.here hx rfl (hb hby at_215) rfl (XS.bipush X25.here hx rfl (hb hby at_216) (XS.iushr X25.here hx rfl (hb hby at_218) rfl (XS.iload X25.here hx rfl (hb hby at_219) rfl k)))) ?_
    show GoW p.tables e below s _ _ _ _ _ (T25.setTop (mkF m 221 #[.val (.int p1), .val (.int p2), .val (.int p3), .val (.int p4), .val (.int bT), .val (.int bC), .val (.int (Int32.ofNat lT)), .val (.int (Int32.ofNat lC)), .val (.int nT), .val (.int nC), .val (.int (Int32.ofNat lR)), .val (.int cp), .val (.int r11), .val (.int r13), .val (.int r15), .val (.int r17), .val (.int r19), .val (.int r21), .val (.int (Int32.ofNat lR)), .val (.int r23), .val (.int r25), .unset, .unset, .unset, .unset, .unset, .unset] [(.int bC), (.int ((p3.toUInt32 >>> ((16 : Int32) &&& 31).toUInt32).toInt32))]))
    obtain ⟨_, _, ⟨T27, L27, k27, n27⟩, -, X27, ⟨Lc27, hQ27, l27, y27, z27⟩, st27⟩ := Jvm.LawKit.callS X25 hx (y := (⟨"com/example/rhythmwire/rhythmwire/idc/CommonSegmentsIsReportPinLaw", "ch", "(IZ)C"⟩ : MethodName)) hown (mvT hZ (hw _ (List.mem_of_getElem? (i := 0) rfl))) (mvT hZ (hw _ (List.mem_of_getElem? (i := 1) rfl))) (mvT hZ (hw _ (List.mem_of_getElem? (i := 2) rfl))) (mvT hZ (hw _ (List.mem_of_getElem? (i := 3) rfl))) (by decide) (backOf (W := 0) (rm1 l Z a0 hw [] ((p3.toUInt32 >>> ((16 : Int32) &&& 31).toUInt32).toInt32) bC h0 n0 Z0 ) hZ (hw _ (List.mem_of_getElem? (i := 3) rfl)) (hw _ (List.mem_of_getElem? (i := 2) rfl)) (by decide) (by decide)) (g := (mkF m 221 #[.val (.int p1), .val (.int p2), .val (.int p3), .val (.int p4), .val (.int bT), .val (.int bC), .val (.int (Int32.ofNat lT)), .val (.int (Int32.ofNat lC)), .val (.int nT), .val (.int nC), .val (.int (Int32.ofNat lR)), .val (.int cp), .val (.int r11), .val (.int r13), .val (.int r15), .val (.int r17), .val (.int r19), .val (.int r21), .val (.int (Int32.ofNat lR)), .val (.int r23), .val (.int r25), .unset, .unset, .unset, .unset, .unset, .unset] [(.int bC), (.int ((p3.toUInt32 >>> ((16 : Int32) &&& 31).toUInt32).toInt32))])) rfl (by rw [hml]; rfl) (argsL := [(.int ((p3.toUInt32 >>> ((16 : Int32) &&& 31).toUInt32).toInt32)), (.int bC)]) (rest := []) (lenOf pd__40_IZ_41_C rfl) rfl (by show 2 * 0 + _ ≤ _; exact Nat.le_of_eq rfl) (hb hby at_221) (fun _ _ => ⟨rfl, e25, (by decide : ((((((((0 + 0) + 0) + 0) + 0) + 0) + 0) + 0) + 0) + 0 ≤ _), (by decide : ((((((((0 + 0) + 0) + 0) + 0) + 0) + 0) + 0) + 0) + 0 ≤ _)⟩)
    dsimp only [Pt.U, Pt.locs, Pt.cells, Pt.slots] at X27 l27 y27 z27 st27 hQ27
    rw [l27, y27, z27] at X27
    obtain ⟨r27, rfl, Nq27, e27, P27_0⟩ := hQ27
    have Np28 := Fr.app Np26 Nq27
    refine GoW.on st27 ?_
    show GoW p.tables e below s _ _ _ _ _ (T27.setTop (mkF m 224 #[.val (.int p1), .val (.int p2), .val (.int p3), .val (.int p4), .val (.int bT), .val (.int bC), .val (.int (Int32.ofNat lT)), .val (.int (Int32.ofNat lC)), .val (.int nT), .val (.int nC), .val (.int (Int32.ofNat lR)), .val (.int cp), .val (.int r11), .val (.int r13), .val (.int r15), .val (.int r17), .val (.int r19), .val (.int r21), .val (.int (Int32.ofNat lR)), .val (.int r23), .val (.int r25), .unset, .unset, .unset, .unset, .unset, .unset] [(.int r27)]))
    refine GoW.on (fun t k => XS.istore X27.here hx rfl (hb hby at_224) rfl (l' := #[.val (.int p1), .val (.int p2), .val (.int p3), .val (.int p4), .val (.int bT), .val (.int bC), .val (.int (Int32.ofNat lT)), .val (.int (Int32.ofNat lC)), .val (.int nT), .val (.int nC), .val (.int (Int32.ofNat lR)), .val (.int cp), .val (.int r11), .val (.int r13), .val (.int r15), .val (.int r17), .val (.int r19), .val (.int r21), .val (.int (Int32.ofNat lR)), .val (.int r23), .val (.int r25), .val (.int r27), .unset, .unset, .unset, .unset, .unset]) rfl (XS.iload X27.here hx rfl (hb hby at_226) rfl k)) ?_
    show GoW p.tables e below s _ _ _ _ _ (T27.setTop (mkF m 228 #[.val (.int p1), .val (.int p2), .val (.int p3), .val (.int p4), .val (.int bT), .val (.int bC), .val (.int (Int32.ofNat lT)), .val (.int (Int32.ofNat lC)), .val (.int nT), .val (.int nC), .val (.int (Int32.ofNat lR)), .val (.int cp), .val (.int r11), .val (.int r13), .val (.int r15), .val (.int r17), .val (.int r19), .val (.int r21), .val (.int (Int32.ofNat lR)), .val (.int r23), .val (.int r25), .val (.int r27), .unset, .unset, .unset, .unset, .unset] [(.int nT)]))
    by_cases hnT : nT = (0 : Int32)
    · refine GoW.on (fun t k => XS.ifYes X27.here hx rfl (pc0 := 228) (pc' := 235) rfl (hb hby at_228) rfl ((if0 _ _).trans (teq hnT).1) (by decide) (by decide) k) ?_
      show GoW p.tables e below s _ _ _ _ _ (T27.setTop (mkF m 235 #[.val (.int p1), .val (.int p2), .val (.int p3), .val (.int p4), .val (.int bT), .val (.int bC), .val (.int (Int32.ofNat lT)), .val (.int (Int32.ofNat lC)), .val (.int nT), .val (.int nC), .val (.int (Int32.ofNat lR)), .val (.int cp), .val (.int r11), .val (.int r13), .val (.int r15), .val (.int r17), .val (.int r19), .val (.int r21), .val (.int (Int32.ofNat lR)), .val (.int r23), .val (.int r25), .val (.int r27), .unset, .unset, .unset, .unset, .unset] []))
      refine GoW.on (fun t k => XS.iload X27.here hx rfl (hb hby at_235) rfl (XS.iload X27.here hx rfl (hb hby at_237) rfl (XS.iload X27.here hx rfl (hb hby at_239) rfl (XS.iload X27.here hx rfl (hb hby at_241) rfl k)))) ?_
      show GoW p.tables e below s _ _ _ _ _ (T27.setTop (mkF m 243 #[.val (.int p1), .val (.int p2), .val (.int p3), .val (.int p4), .val (.int bT), .val (.int bC), .val (.int (Int32.ofNat lT)), .val (.int (Int32.ofNat lC)), .val (.int nT), .val (.int nC), .val (.int (Int32.ofNat lR)), .val (.int cp), .val (.int r11), .val (.int r13), .val (.int r15), .val (.int r17), .val (.int r19), .val (.int r21), .val (.int (Int32.ofNat lR)), .val (.int r23), .val (.int r25), .val (.int r27), .unset, .unset, .unset, .unset, .unset] [(.int r15), (.int r13), (.int r11), (.int (Int32.ofNat lT))]))
      obtain ⟨_, _, ⟨T29, L29, k29, n29⟩, -, X29, Sn29, Gr29, ⟨Lc29, hQ29, l29, y29, z29, C29⟩, st29⟩ := callSS X27 hx (y := (⟨"com/example/rhythmwire/rhythmwire/idc/CommonSegmentsIsReportPinLaw", "str", "(ICCC)Ljava/lang/String;"⟩ : MethodName)) hown (mvT hZ (hw _ (List.mem_of_getElem? (i := 4) rfl))) (mvT hZ (hw _ (List.mem_of_getElem? (i := 5) rfl))) (mvT hZ (hw _ (List.mem_of_getElem? (i := 2) rfl))) (mvT hZ (hw _ (List.mem_of_getElem? (i := 6) rfl))) (by decide) (backOfSH (W := 0) (rm2 l Z a0 hw [] (Int32.ofNat lT) r11 r13 r15 G1 lT h0 n0 Z0 Old0 O2 P5 rfl hlT P11_0 P13_0 P15_0) hZ (hw _ (List.mem_of_getElem? (i := 6) rfl)) (hw _ (List.mem_of_getElem? (i := 2) rfl)) (by decide) (by decide) hEL Ch0.1) (g := (mkF m 243 #[.val (.int p1), .val (.int p2), .val (.int p3), .val (.int p4), .val (.int bT), .val (.int bC), .val (.int (Int32.ofNat lT)), .val (.int (Int32.ofNat lC)), .val (.int nT), .val (.int nC), .val (.int (Int32.ofNat lR)), .val (.int cp), .val (.int r11), .val (.int r13), .val (.int r15), .val (.int r17), .val (.int r19), .val (.int r21), .val (.int (Int32.ofNat lR)), .val (.int r23), .val (.int r25), .val (.int r27), .unset, .unset, .unset, .unset, .unset] [(.int r15), (.int r13), (.int r11), (.int (Int32.ofNat lT))])) rfl (by rw [hml]; rfl) (argsL := [(.int (Int32.ofNat lT)), (.int r11), (.int r13), (.int r15)]) (rest := []) (lenOf pd__40_ICCC_41_Ljava_47_lang_47_String_59_ rfl) rfl (by show 2 * 0 + _ ≤ _; exact Nat.le_of_eq rfl) (hb hby at_243) (fun _ _ => ⟨rfl, e27, (by decide : (((((((((0 + 0) + 0) + 0) + 0) + 0) + 0) + 0) + 0) + 0) + 6 ≤ _), (by decide : (((((((((0 + 0) + 0) + 0) + 0) + 0) + 0) + 0) + 0) + 0) + 12 ≤ _)⟩)
      dsimp only [Pt.U, Pt.locs, Pt.cells, Pt.slots] at X29 l29 y29 z29 st29 hQ29 Sn29 Gr29 C29
      rw [l29, y29, z29] at X29
      obtain ⟨Y29, hS29, hZ29, hown29⟩ := rebS hS0 (Nat.le_trans hk0 (Nat.le_of_eq (congrArg Array.size e27.symm))) X29 Sn29 Gr29 hZ hown
      obtain ⟨xs29, rfl, Nq29, Kq29, P29_0⟩ := hQ29
      have Ch30 := Ch0.trans C29
      have Old0_31 := Old0.keep Kq29 all0
      have Zp32 := Nat.le_trans Z0 Kq29.1
      have Np33 := Fr.app Np28 Nq29
      refine GoW.via st29 ?_
      show GoW p.tables e below s _ _ _ _ _ (T29.setTop (mkF m 246 #[.val (.int p1), .val (.int p2), .val (.int p3), .val (.int p4), .val (.int bT), .val (.int bC), .val (.int (Int32.ofNat lT)), .val (.int (Int32.ofNat lC)), .val (.int nT), .val (.int nC), .val (.int (Int32.ofNat lR)), .val (.int cp), .val (.int r11), .val (.int r13), .val (.int r15), .val (.int r17), .val (.int r19), .val (.int r21), .val (.int (Int32.ofNat lR)), .val (.int r23), .val (.int r25), .val (.int r27), .unset, .unset, .unset, .unset, .unset] [(.ref xs29)]))
      refine GoW.on (fun t k => XS.astore Y29.here hx rfl (hb hby at_246) rfl rfl (l' := #[.val (.int p1), .val (.int p2), .val (.int p3), .val (.int p4), .val (.int bT), .val (.int bC), .val (.int (Int32.ofNat lT)), .val (.int (Int32.ofNat lC)), .val (.int nT), .val (.int nC), .val (.int (Int32.ofNat lR)), .val (.int cp), .val (.int r11), .val (.int r13), .val (.int r15), .val (.int r17), .val (.int r19), .val (.int r21), .val (.int (Int32.ofNat lR)), .val (.int r23), .val (.int r25), .val (.int r27), .val (.ref xs29), .unset, .unset, .unset, .unset]) rfl (XS.iload Y29.here hx rfl (hb hby at_248) rfl k)) ?_
      show GoW p.tables e below s _ _ _ _ _ (T29.setTop (mkF m 250 #[.val (.int p1), .val (.int p2), .val (.int p3), .val (.int p4), .val (.int bT), .val (.int bC), .val (.int (Int32.ofNat lT)), .val (.int (Int32.ofNat lC)), .val (.int nT), .val (.int nC), .val (.int (Int32.ofNat lR)), .val (.int cp), .val (.int r11), .val (.int r13), .val (.int r15), .val (.int r17), .val (.int r19), .val (.int r21), .val (.int (Int32.ofNat lR)), .val (.int r23), .val (.int r25), .val (.int r27), .val (.ref xs29), .unset, .unset, .unset, .unset] [(.int nC)]))
      by_cases hnC : nC = (0 : Int32)
      · refine GoW.on (fun t k => XS.ifYes Y29.here hx rfl (pc0 := 250) (pc' := 257) rfl (hb hby at_250) rfl ((if0 _ _).trans (teq hnC).1) (by decide) (by decide) k) ?_
        show GoW p.tables e below s _ _ _ _ _ (T29.setTop (mkF m 257 #[.val (.int p1), .val (.int p2), .val (.int p3), .val (.int p4), .val (.int bT), .val (.int bC), .val (.int (Int32.ofNat lT)), .val (.int (Int32.ofNat lC)), .val (.int nT), .val (.int nC), .val (.int (Int32.ofNat lR)), .val (.int cp), .val (.int r11), .val (.int r13), .val (.int r15), .val (.int r17), .val (.int r19), .val (.int r21), .val (.int (Int32.ofNat lR)), .val (.int r23), .val (.int r25), .val (.int r27), .val (.ref xs29), .unset, .unset, .unset, .unset] []))
        refine GoW.on (fun t k => XS.iload Y29.here hx rfl (hb hby at_257) rfl (XS.iload Y29.here hx rfl (hb hby at_259) rfl (XS.iload Y29.here hx rfl (hb hby at_261) rfl (XS.iload Y29.here hx rfl (hb hby at_263) rfl k)))) ?_
        show GoW p.tables e below s _ _ _ _ _ (T29.setTop (mkF m 265 #[.val (.int p1), .val (.int p2), .val (.int p3), .val (.int p4), .val (.int bT), .val (.int bC), .val (.int (Int32.ofNat lT)), .val (.int (Int32.ofNat lC)), .val (.int nT), .val (.int nC), .val (.int (Int32.ofNat lR)), .val (.int cp), .val (.int r11), .val (.int r13), .val (.int r15), .val (.int r17), .val (.int r19), .val (.int r21), .val (.int (Int32.ofNat lR)), .val (.int r23), .val (.int r25), .val (.int r27), .val (.ref xs29), .unset, .unset, .unset, .unset] [(.int r21), (.int r19), (.int r17), (.int (Int32.ofNat lC))]))
        obtain ⟨_, _, ⟨T34, L34, k34, n34⟩, -, X34, Sn34, Gr34, ⟨Lc34, hQ34, l34, y34, z34, C34⟩, st34⟩ := callSS Y29 hx (y := (⟨"com/example/rhythmwire/rhythmwire/idc/CommonSegmentsIsReportPinLaw", "str", "(ICCC)Ljava/lang/String;"⟩ : MethodName)) hown29 (mvT hZ29 (hw _ (List.mem_of_getElem? (i := 4) rfl))) (mvT hZ29 (hw _ (List.mem_of_getElem? (i := 5) rfl))) (mvT hZ29 (hw _ (List.mem_of_getElem? (i := 2) rfl))) (mvT hZ29 (hw _ (List.mem_of_getElem? (i := 6) rfl))) (by decide) (backOfSH (W := 0) (rm2 l Z a0 hw [] (Int32.ofNat lC) r17 r19 r21 G1 lC T29.heap n0 Zp32 Old0_31 O2 P5 rfl hlC P17_0 P19_0 P21_0) hZ29 (hw _ (List.mem_of_getElem? (i := 6) rfl)) (hw _ (List.mem_of_getElem? (i := 2) rfl)) (by decide) (by decide) hEL Ch30.1) (g := (mkF m 265 #[.val (.int p1), .val (.int p2), .val (.int p3), .val (.int p4), .val (.int bT), .val (.int bC), .val (.int (Int32.ofNat lT)), .val (.int (Int32.ofNat lC)), .val (.int nT), .val (.int nC), .val (.int (Int32.ofNat lR)), .val (.int cp), .val (.int r11), .val (.int r13), .val (.int r15), .val (.int r17), .val (.int r19), .val (.int r21), .val (.int (Int32.ofNat lR)), .val (.int r23), .val (.int r25), .val (.int r27), .val (.ref xs29), .unset, .unset, .unset, .unset] [(.int r21), (.int r19), (.int r17), (.int (Int32.ofNat lC))])) rfl (by rw [hml]; rfl) (argsL := [(.int (Int32.ofNat lC)), (.int r17), (.int r19), (.int r21)]) (rest := []) (lenOf pd__40_ICCC_41_Ljava_47_lang_47_String_59_ rfl) rfl (by show 2 * 0 + _ ≤ _; exact Nat.le_of_eq rfl) (hb hby at_265) (fun _ _ => ⟨rfl, rfl, (by decide : ((((((((((0 + 0) + 0) + 0) + 0) + 0) + 0) + 0) + 0) + 0) + 6) + 6 ≤ _), (by decide : ((((((((((0 + 0) + 0) + 0) + 0) + 0) + 0) + 0) + 0) + 0) + 12) + 12 ≤ _)⟩)
        dsimp only [Pt.U, Pt.locs, Pt.cells, Pt.slots] at X34 l34 y34 z34 st34 hQ34 Sn34 Gr34 C34
        rw [l34, y34, z34] at X34
        obtain ⟨Y34, hS34, hZ34, hown34⟩ := rebS hS29 (Nat.le_refl _) X34 Sn34 Gr34 hZ29 hown29
        obtain ⟨xs34, rfl, Nq34, Kq34, P34_0⟩ := hQ34
        have Ch35 := Ch30.trans C34
        have Old0_36 := Old0_31.keep Kq34 all0
        have P29_37 := P29_0.keep0 Kq34
        have Zp38 := Nat.le_trans Zp32 Kq34.1
        have Np39 := Fr.app Np33 Nq34
        refine GoW.via st34 ?_
        show GoW p.tables e below s _ _ _ _ _ (T34.setTop (mkF m 268 #[.val (.int p1), .val (.int p2), .val (.int p3), .val (.int p4), .val (.int bT), .val (.int bC), .val (.int (Int32.ofNat lT)), .val (.int (Int32.ofNat lC)), .val (.int nT), .val (.int nC), .val (.int (Int32.ofNat lR)), .val (.int cp), .val (.int r11), .val (.int r13), .val (.int r15), .val (.int r17), .val (.int r19), .val (.int r21), .val (.int (Int32.ofNat lR)), .val (.int r23), .val (.int r25), .val (.int r27), .val (.ref xs29), .unset, .unset, .unset, .unset] [(.ref xs34)]))
        refine GoW.on (fun t k => XS.astore Y34.here hx rfl (hb hby at_268) rfl rfl (l' := #[.val (.int p1), .val (.int p2), .val (.int p3), .val (.int p4), .val (.int bT), .val (.int bC), .val (.int (Int32.ofNat lT)), .val (.int (Int32.ofNat lC)), .val (.int nT), .val (.int nC), .val (.int (Int32.ofNat lR)), .val (.int cp), .val (.int r11), .val (.int r13), .val (.int r15), .val (.int r17), .val (.int r19), .val (.int r21), .val (.int (Int32.ofNat lR)), .val (.int r23), .val (.int r25), .val (.int r27), .val (.ref xs29), .val (.ref xs34), .unset, .unset, .unset]) rfl (XS.iload Y34.here hx rfl (hb hby at_270) rfl (XS.iload Y34.here hx rfl (hb hby at_272) rfl (XS.iload Y34.here hx rfl (hb hby at_274) rfl (XS.iload Y34.here hx rfl (hb hby at_276) rfl k))))) ?_
        show GoW p.tables e below s _ _ _ _ _ (T34.setTop (mkF m 278 #[.val (.int p1), .val (.int p2), .val (.int p3), .val (.int p4), .val (.int bT), .val (.int bC), .val (.int (Int32.ofNat lT)), .val (.int (Int32.ofNat lC)), .val (.int nT), .val (.int nC), .val (.int (Int32.ofNat lR)), .val (.int cp), .val (.int r11), .val (.int r13), .val (.int r15), .val (.int r17), .val (.int r19), .val (.int r21), .val (.int (Int32.ofNat lR)), .val (.int r23), .val (.int r25), .val (.int r27), .val (.ref xs29), .val (.ref xs34), .unset, .unset, .unset] [(.int r27), (.int r25), (.int r23), (.int (Int32.ofNat lR))]))
        obtain ⟨_, _, ⟨T40, L40, k40, n40⟩, -, X40, Sn40, Gr40, ⟨Lc40, hQ40, l40, y40, z40, C40⟩, st40⟩ := callSS Y34 hx (y := (⟨"com/example/rhythmwire/rhythmwire/idc/CommonSegmentsIsReportPinLaw", "str", "(ICCC)Ljava/lang/String;"⟩ : MethodName)) hown34 (mvT hZ34 (hw _ (List.mem_of_getElem? (i := 4) rfl))) (mvT hZ34 (hw _ (List.mem_of_getElem? (i := 5) rfl))) (mvT hZ34 (hw _ (List.mem_of_getElem? (i := 2) rfl))) (mvT hZ34 (hw _ (List.mem_of_getElem? (i := 6) rfl))) (by decide) (backOfSH (W := 0) (rm2 l Z a0 hw [] (Int32.ofNat lR) r23 r25 r27 G1 lR T34.heap n0 Zp38 Old0_36 O2 P5 rfl hlR P23_0 P25_0 P27_0) hZ34 (hw _ (List.mem_of_getElem? (i := 6) rfl)) (hw _ (List.mem_of_getElem? (i := 2) rfl)) (by decide) (by decide) hEL Ch35.1) (g := (mkF m 278 #[.val (.int p1), .val (.int p2), .val (.int p3), .val (.int p4), .val (.int bT), .val (.int bC), .val (.int (Int32.ofNat lT)), .val (.int (Int32.ofNat lC)), .val (.int nT), .val (.int nC), .val (.int (Int32.ofNat lR)), .val (.int cp), .val (.int r11), .val (.int r13), .val (.int r15), .val (.int r17), .val (.int r19), .val (.int r21), .val (.int (Int32.ofNat lR)), .val (.int r23), .val (.int r25), .val (.int r27), .val (.ref xs29), .val (.ref xs34), .unset, .unset, .unset] [(.int r27), (.int r25), (.int r23), (.int (Int32.ofNat lR))])) rfl (by rw [hml]; rfl) (argsL := [(.int (Int32.ofNat lR)), (.int r23), (.int r25), (.int r27)]) (rest := []) (lenOf pd__40_ICCC_41_Ljava_47_lang_47_String_59_ rfl) rfl (by show 2 * 0 + _ ≤ _; exact Nat.le_of_eq rfl) (hb hby at_278) (fun _ _ => ⟨rfl, rfl, (by decide : (((((((((((0 + 0) + 0) + 0) + 0) + 0) + 0) + 0) + 0) + 0) + 6) + 6) + 6 ≤ _), (by decide : (((((((((((0 + 0) + 0) + 0) + 0) + 0) + 0) + 0) + 0) + 0) + 12) + 12) + 12 ≤ _)⟩)
        dsimp only [Pt.U, Pt.locs, Pt.cells, Pt.slots] at X40 l40 y40 z40 st40 hQ40 Sn40 Gr40 C40
        rw [l40, y40, z40] at X40
        obtain ⟨Y40, hS40, hZ40, hown40⟩ := rebS hS34 (Nat.le_refl _) X40 Sn40 Gr40 hZ34 hown34
        obtain ⟨xs40, rfl, Nq40, Kq40, P40_0⟩ := hQ40
        have Ch41 := Ch35.trans C40
        have Old0_42 := Old0_36.keep Kq40 all0
        have P29_43 := P29_37.keep0 Kq40
        have P34_44 := P34_0.keep0 Kq40
        have Zp45 := Nat.le_trans Zp38 Kq40.1
        have Np46 := Fr.app Np39 Nq40
        refine GoW.via st40 ?_
        show GoW p.tables e below s _ _ _ _ _ (T40.setTop (mkF m 281 #[.val (.int p1), .val (.int p2), .val (.int p3), .val (.int p4), .val (.int bT), .val (.int bC), .val (.int (Int32.ofNat lT)), .val (.int (Int32.ofNat lC)), .val (.int nT), .val (.int nC), .val (.int (Int32.ofNat lR)), .val (.int cp), .val (.int r11), .val (.int r13), .val (.int r15), .val (.int r17), .val (.int r19), .val (.int r21), .val (.int (Int32.ofNat lR)), .val (.int r23), .val (.int r25), .val (.int r27), .val (.ref xs29), .val (.ref xs34), .unset, .unset, .unset] [(.ref xs40)]))
        refine GoW.on (fun t k => XS.astore Y40.here hx rfl (hb hby at_281) rfl rfl (l' := #[.val (.int p1), .val (.int p2), .val (.int p3), .val (.int p4), .val (.int bT), .val (.int bC), .val (.int (Int32.ofNat lT)), .val (.int (Int32.ofNat lC)), .val (.int nT), .val (.int nC), .val (.int (Int32.ofNat lR)), .val (.int cp), .val (.int r11), .val (.int r13), .val (.int r15), .val (.int r17), .val (.int r19), .val (.int r21), .val (.int (Int32.ofNat lR)), .val (.int r23), .val (.int r25), .val (.int r27), .val (.ref xs29), .val (.ref xs34), .val (.ref xs40), .unset, .unset]) rfl (XS.iload Y40.here hx rfl (hb hby at_283) rfl k)) ?_
        show GoW p.tables e below s _ _ _ _ _ (T40.setTop (mkF m 285 #[.val (.int p1), .val (.int p2), .val (.int p3), .val (.int p4), .val (.int bT), .val (.int bC), .val (.int (Int32.ofNat lT)), .val (.int (Int32.ofNat lC)), .val (.int nT), .val (.int nC), .val (.int (Int32.ofNat lR)), .val (.int cp), .val (.int r11), .val (.int r13), .val (.int r15), .val (.int r17), .val (.int r19), .val (.int r21), .val (.int (Int32.ofNat lR)), .val (.int r23), .val (.int r25), .val (.int r27), .val (.ref xs29), .val (.ref xs34), .val (.ref xs40), .unset, .unset] [(.int nT)]))
        refine GoW.on (fun t k => XS.ifNo Y40.here hx rfl (hb hby at_285) rfl ((if0 _ _).trans (teq hnT).2) k) ?_
        show GoW p.tables e below s _ _ _ _ _ (T40.setTop (mkF m 288 #[.val (.int p1), .val (.int p2), .val (.int p3), .val (.int p4), .val (.int bT), .val (.int bC), .val (.int (Int32.ofNat lT)), .val (.int (Int32.ofNat lC)), .val (.int nT), .val (.int nC), .val (.int (Int32.ofNat lR)), .val (.int cp), .val (.int r11), .val (.int r13), .val (.int r15), .val (.int r17), .val (.int r19), .val (.int r21), .val (.int (Int32.ofNat lR)), .val (.int r23), .val (.int r25), .val (.int r27), .val (.ref xs29), .val (.ref xs34), .val (.ref xs40), .unset, .unset] []))
        refine GoW.on (fun t k => XS.iload Y40.here hx rfl (hb hby at_288) rfl (XS.iconst Y40.here hx rfl (hb hby at_290) k)) ?_
        show GoW p.tables e below s _ _ _ _ _ (T40.setTop (mkF m 291 #[.val (.int p1), .val (.int p2), .val (.int p3), .val (.int p4), .val (.int bT), .val (.int bC), .val (.int (Int32.ofNat lT)), .val (.int (Int32.ofNat lC)), .val (.int nT), .val (.int nC), .val (.int (Int32.ofNat lR)), .val (.int cp), .val (.int r11), .val (.int r13), .val (.int r15), .val (.int r17), .val (.int r19), .val (.int r21), .val (.int (Int32.ofNat lR)), .val (.int r23), .val (.int r25), .val (.int r27), .val (.ref xs29), .val (.ref xs34), .val (.ref xs40), .unset, .unset] [(.int (2 : Int32)), (.int (Int32.ofNat lT))]))
        have J47 : GoW p.tables e below s (Q0 Z p1 p2 p3 p4 G1 h0 n0) Z own_EL room_1.cells room_1.slots (T40.setTop (mkF m 313 #[.val (.int p1), .val (.int p2), .val (.int p3), .val (.int p4), .val (.int bT), .val (.int bC), .val (.int (Int32.ofNat lT)), .val (.int (Int32.ofNat lC)), .val (.int nT), .val (.int nC), .val (.int (Int32.ofNat lR)), .val (.int cp), .val (.int r11), .val (.int r13), .val (.int r15), .val (.int r17), .val (.int r19), .val (.int r21), .val (.int (Int32.ofNat lR)), .val (.int r23), .val (.int r25), .val (.int r27), .val (.ref xs29), .val (.ref xs34), .val (.ref xs40), .unset, .unset] [(.int (own_b ((([r11, r13, r15] : List Int32).take lT) = ([69, 68] : List Int32))))])) → GoW p.tables e below s (Q0 Z p1 p2 p3 p4 G1 h0 n0) Z own_EL room_1.cells room_1.slots (T40.setTop (mkF m 291 #[.val (.int p1), .val (.int p2), .val (.int p3), .val (.int p4), .val (.int bT), .val (.int bC), .val (.int (Int32.ofNat lT)), .val (.int (Int32.ofNat lC)), .val (.int nT), .val (.int nC), .val (.int (Int32.ofNat lR)), .val (.int cp), .val (.int r11), .val (.int r13), .val (.int r15), .val (.int r17), .val (.int r19), .val (.int r21), .val (.int (Int32.ofNat lR)), .val (.int r23), .val (.int r25), .val (.int r27), .val (.ref xs29), .val (.ref xs34), .val (.ref xs40), .unset, .unset] [(.int (2 : Int32)), (.int (Int32.ofNat lT))])) := by
          intro kJ
          by_cases hc291_48 : (Int32.ofNat lT) = (2 : Int32)
          · refine GoW.on (fun t k => XS.icmpNo Y40.here hx rfl (hb hby at_291) rfl (teq hc291_48).2 k) ?_
            show GoW p.tables e below s _ _ _ _ _ (T40.setTop (mkF m 294 #[.val (.int p1), .val (.int p2), .val (.int p3), .val (.int p4), .val (.int bT), .val (.int bC), .val (.int (Int32.ofNat lT)), .val (.int (Int32.ofNat lC)), .val (.int nT), .val (.int nC), .val (.int (Int32.ofNat lR)), .val (.int cp), .val (.int r11), .val (.int r13), .val (.int r15), .val (.int r17), .val (.int r19), .val (.int r21), .val (.int (Int32.ofNat lR)), .val (.int r23), .val (.int r25), .val (.int r27), .val (.ref xs29), .val (.ref xs34), .val (.ref xs40), .unset, .unset] []))
            refine GoW.on (fun t k => XS.iload Y40.here hx rfl (hb hby at_294) rfl (XS.bipush Y40.here hx rfl (hb hby at_296) k)) ?_
            show GoW p.tables e below s _ _ _ _ _ (T40.setTop (mkF m 298 #[.val (.int p1), .val (.int p2), .val (.int p3), .val (.int p4), .val (.int bT), .val (.int bC), .val (.int (Int32.ofNat lT)), .val (.int (Int32.ofNat lC)), .val (.int nT), .val (.int nC), .val (.int (Int32.ofNat lR)), .val (.int cp), .val (.int r11), .val (.int r13), .val (.int r15), .val (.int r17), .val (.int r19), .val (.int r21), .val (.int (Int32.ofNat lR)), .val (.int r23), .val (.int r25), .val (.int r27), .val (.ref xs29), .val (.ref xs34), .val (.ref xs40), .unset, .unset] [(.int (69 : Int32)), (.int r11)]))
            by_cases hc298_49 : r11 = (69 : Int32)
            · refine GoW.on (fun t k => XS.icmpNo Y40.here hx rfl (hb hby at_298) rfl (teq hc298_49).2 k) ?_
              show GoW p.tables e below s _ _ _ _ _ (T40.setTop (mkF m 301 #[.val (.int p1), .val (.int p2), .val (.int p3), .val (.int p4), .val (.int bT), .val (.int bC), .val (.int (Int32.ofNat lT)), .val (.int (Int32.ofNat lC)), .val (.int nT), .val (.int nC), .val (.int (Int32.ofNat lR)), .val (.int cp), .val (.int r11), .val (.int r13), .val (.int r15), .val (.int r17), .val (.int r19), .val (.int r21), .val (.int (Int32.ofNat lR)), .val (.int r23), .val (.int r25), .val (.int r27), .val (.ref xs29), .val (.ref xs34), .val (.ref xs40), .unset, .unset] []))
              refine GoW.on (fun t k => XS.iload Y40.here hx rfl (hb hby at_301) rfl (XS.bipush Y40.here hx rfl (hb hby at_303) k)) ?_
              show GoW p.tables e below s _ _ _ _ _ (T40.setTop (mkF m 305 #[.val (.int p1), .val (.int p2), .val (.int p3), .val (.int p4), .val (.int bT), .val (.int bC), .val (.int (Int32.ofNat lT)), .val (.int (Int32.ofNat lC)), .val (.int nT), .val (.int nC), .val (.int (Int32.ofNat lR)), .val (.int cp), .val (.int r11), .val (.int r13), .val (.int r15), .val (.int r17), .val (.int r19), .val (.int r21), .val (.int (Int32.ofNat lR)), .val (.int r23), .val (.int r25), .val (.int r27), .val (.ref xs29), .val (.ref xs34), .val (.ref xs40), .unset, .unset] [(.int (68 : Int32)), (.int r13)]))
              by_cases hc305_50 : r13 = (68 : Int32)
              · refine GoW.on (fun t k => XS.icmpNo Y40.here hx rfl (hb hby at_305) rfl (teq hc305_50).2 k) ?_
                show GoW p.tables e below s _ _ _ _ _ (T40.setTop (mkF m 308 #[.val (.int p1), .val (.int p2), .val (.int p3), .val (.int p4), .val (.int bT), .val (.int bC), .val (.int (Int32.ofNat lT)), .val (.int (Int32.ofNat lC)), .val (.int nT), .val (.int nC), .val (.int (Int32.ofNat lR)), .val (.int cp), .val (.int r11), .val (.int r13), .val (.int r15), .val (.int r17), .val (.int r19), .val (.int r21), .val (.int (Int32.ofNat lR)), .val (.int r23), .val (.int r25), .val (.int r27), .val (.ref xs29), .val (.ref xs34), .val (.ref xs40), .unset, .unset] []))
                refine GoW.on (fun t k => XS.iconst Y40.here hx rfl (hb hby at_308) (XS.goto Y40.here hx rfl (pc0 := 309) (pc' := 313) rfl (hb hby at_309) (by decide) (by decide) k)) ?_
                show GoW p.tables e below s _ _ _ _ _ (T40.setTop (mkF m 313 #[.val (.int p1), .val (.int p2), .val (.int p3), .val (.int p4), .val (.int bT), .val (.int bC), .val (.int (Int32.ofNat lT)), .val (.int (Int32.ofNat lC)), .val (.int nT), .val (.int nC), .val (.int (Int32.ofNat lR)), .val (.int cp), .val (.int r11), .val (.int r13), .val (.int r15), .val (.int r17), .val (.int r19), .val (.int r21), .val (.int (Int32.ofNat lR)), .val (.int r23), .val (.int r25), .val (.int r27), .val (.ref xs29), .val (.ref xs34), .val (.ref xs40), .unset, .unset] [(.int (1 : Int32))]))
                have eJ : own_b ((([r11, r13, r15] : List Int32).take lT) = ([69, 68] : List Int32)) = 1 := own_bt ((own_tk hlT).mpr ⟨(own_num hlT (by decide : 2 ≤ 3)).mp hc291_48, hc298_49, hc305_50⟩)
                rw [eJ] at kJ
                exact kJ
              · refine GoW.on (fun t k => XS.icmpYes Y40.here hx rfl (pc0 := 305) (pc' := 312) rfl (hb hby at_305) rfl (feq hc305_50).2 (by decide) (by decide) k) ?_
                show GoW p.tables e below s _ _ _ _ _ (T40.setTop (mkF m 312 #[.val (.int p1), .val (.int p2), .val (.int p3), .val (.int p4), .val (.int bT), .val (.int bC), .val (.int (Int32.ofNat lT)), .val (.int (Int32.ofNat lC)), .val (.int nT), .val (.int nC), .val (.int (Int32.ofNat lR)), .val (.int cp), .val (.int r11), .val (.int r13), .val (.int r15), .val (.int r17), .val (.int r19), .val (.int r21), .val (.int (Int32.ofNat lR)), .val (.int r23), .val (.int r25), .val (.int r27), .val (.ref xs29), .val (.ref xs34), .val (.ref xs40), .unset, .unset] []))
                refine GoW.on (fun t k => XS.iconst Y40.here hx rfl (hb hby at_312) k) ?_
                show GoW p.tables e below s _ _ _ _ _ (T40.setTop (mkF m 313 #[.val (.int p1), .val (.int p2), .val (.int p3), .val (.int p4), .val (.int bT), .val (.int bC), .val (.int (Int32.ofNat lT)), .val (.int (Int32.ofNat lC)), .val (.int nT), .val (.int nC), .val (.int (Int32.ofNat lR)), .val (.int cp), .val (.int r11), .val (.int r13), .val (.int r15), .val (.int r17), .val (.int r19), .val (.int r21), .val (.int (Int32.ofNat lR)), .val (.int r23), .val (.int r25), .val (.int r27), .val (.ref xs29), .val (.ref xs34), .val (.ref xs40), .unset, .unset] [(.int (0 : Int32))]))
                have eJ : own_b ((([r11, r13, r15] : List Int32).take lT) = ([69, 68] : List Int32)) = 0 := own_bf (fun q => hc305_50 ((own_tk hlT).mp q).2.2)
                rw [eJ] at kJ
                exact kJ
            · refine GoW.on (fun t k => XS.icmpYes Y40.here hx rfl (pc0 := 298) (pc' := 312) rfl (hb hby at_298) rfl (feq hc298_49).2 (by decide) (by decide) k) ?_
              show GoW p.tables e below s _ _ _ _ _ (T40.setTop (mkF m 312 #[.val (.int p1), .val (.int p2), .val (.int p3), .val (.int p4), .val (.int bT), .val (.int bC), .val (.int (Int32.ofNat lT)), .val (.int (Int32.ofNat lC)), .val (.int nT), .val (.int nC), .val (.int (Int32.ofNat lR)), .val (.int cp), .val (.int r11), .val (.int r13), .val (.int r15), .val (.int r17), .val (.int r19), .val (.int r21), .val (.int (Int32.ofNat lR)), .val (.int r23), .val (.int r25), .val (.int r27), .val (.ref xs29), .val (.ref xs34), .val (.ref xs40), .unset, .unset] []))
              refine GoW.on (fun t k => XS.iconst Y40.here hx rfl (hb hby at_312) k) ?_
              show GoW p.tables e below s _ _ _ _ _ (T40.setTop (mkF m 313 #[.val (.int p1), .val (.int p2), .val (.int p3), .val (.int p4), .val (.int bT), .val (.int bC), .val (.int (Int32.ofNat lT)), .val (.int (Int32.ofNat lC)), .val (.int nT), .val (.int nC), .val (.int (Int32.ofNat lR)), .val (.int cp), .val (.int r11), .val (.int r13), .val (.int r15), .val (.int r17), .val (.int r19), .val (.int r21), .val (.int (Int32.ofNat lR)), .val (.int r23), .val (.int r25), .val (.int r27), .val (.ref xs29), .val (.ref xs34), .val (.ref xs40), .unset, .unset] [(.int (0 : Int32))]))
              have eJ : own_b ((([r11, r13, r15] : List Int32).take lT) = ([69, 68] : List Int32)) = 0 := own_bf (fun q => hc298_49 ((own_tk hlT).mp q).2.1)
              rw [eJ] at kJ
              exact kJ
          · refine GoW.on (fun t k => XS.icmpYes Y40.here hx rfl (pc0 := 291) (pc' := 312) rfl (hb hby at_291) rfl (feq hc291_48).2 (by decide) (by decide) k) ?_
            show GoW p.tables e below s _ _ _ _ _ (T40.setTop (mkF m 312 #[.val (.int p1), .val (.int p2), .val (.int p3), .val (.int p4), .val (.int bT), .val (.int bC), .val (.int (Int32.ofNat lT)), .val (.int (Int32.ofNat lC)), .val (.int nT), .val (.int nC), .val (.int (Int32.ofNat lR)), .val (.int cp), .val (.int r11), .val (.int r13), .val (.int r15), .val (.int r17), .val (.int r19), .val (.int r21), .val (.int (Int32.ofNat lR)), .val (.int r23), .val (.int r25), .val (.int r27), .val (.ref xs29), .val (.ref xs34), .val (.ref xs40), .unset, .unset] []))
            refine GoW.on (fun t k => XS.iconst Y40.here hx rfl (hb hby at_312) k) ?_
            show GoW p.tables e below s _ _ _ _ _ (T40.setTop (mkF m 313 #[.val (.int p1), .val (.int p2), .val (.int p3), .val (.int p4), .val (.int bT), .val (.int bC), .val (.int (Int32.ofNat lT)), .val (.int (Int32.ofNat lC)), .val (.int nT), .val (.int nC), .val (.int (Int32.ofNat lR)), .val (.int cp), .val (.int r11), .val (.int r13), .val (.int r15), .val (.int r17), .val (.int r19), .val (.int r21), .val (.int (Int32.ofNat lR)), .val (.int r23), .val (.int r25), .val (.int r27), .val (.ref xs29), .val (.ref xs34), .val (.ref xs40), .unset, .unset] [(.int (0 : Int32))]))
            have eJ : own_b ((([r11, r13, r15] : List Int32).take lT) = ([69, 68] : List Int32)) = 0 := own_bf (fun q => hc291_48 ((own_num hlT (by decide : 2 ≤ 3)).mpr ((own_tk hlT).mp q).1))
            rw [eJ] at kJ
            exact kJ
        refine J47 ?_
        show GoW p.tables e below s _ _ _ _ _ (T40.setTop (mkF m 313 #[.val (.int p1), .val (.int p2), .val (.int p3), .val (.int p4), .val (.int bT), .val (.int bC), .val (.int (Int32.ofNat lT)), .val (.int (Int32.ofNat lC)), .val (.int nT), .val (.int nC), .val (.int (Int32.ofNat lR)), .val (.int cp), .val (.int r11), .val (.int r13), .val (.int r15), .val (.int r17), .val (.int r19), .val (.int r21), .val (.int (Int32.ofNat lR)), .val (.int r23), .val (.int r25), .val (.int r27), .val (.ref xs29), .val (.ref xs34), .val (.ref xs40), .unset, .unset] [(.int (own_b ((([r11, r13, r15] : List Int32).take lT) = ([69, 68] : List Int32))))]))
        refine GoW.on (fun t k => XS.istore Y40.here hx rfl (hb hby at_313) rfl (l' := #[.val (.int p1), .val (.int p2), .val (.int p3), .val (.int p4), .val (.int bT), .val (.int bC), .val (.int (Int32.ofNat lT)), .val (.int (Int32.ofNat lC)), .val (.int nT), .val (.int nC), .val (.int (Int32.ofNat lR)), .val (.int cp), .val (.int r11), .val (.int r13), .val (.int r15), .val (.int r17), .val (.int r19), .val (.int r21), .val (.int (Int32.ofNat lR)), .val (.int r23), .val (.int r25), .val (.int r27), .val (.ref xs29), .val (.ref xs34), .val (.ref xs40), .val (.int (own_b ((([r11, r13, r15] : List Int32).take lT) = ([69, 68] : List Int32)))), .unset]) rfl (XS.iload Y40.here hx rfl (hb hby at_315) rfl k)) ?_
        show GoW p.tables e below s _ _ _ _ _ (T40.setTop (mkF m 317 #[.val (.int p1), .val (.int p2), .val (.int p3), .val (.int p4), .val (.int bT), .val (.int bC), .val (.int (Int32.ofNat lT)), .val (.int (Int32.ofNat lC)), .val (.int nT), .val (.int nC), .val (.int (Int32.ofNat lR)), .val (.int cp), .val (.int r11), .val (.int r13), .val (.int r15), .val (.int r17), .val (.int r19), .val (.int r21), .val (.int (Int32.ofNat lR)), .val (.int r23), .val (.int r25), .val (.int r27), .val (.ref xs29), .val (.ref xs34), .val (.ref xs40), .val (.int (own_b ((([r11, r13, r15] : List Int32).take lT) = ([69, 68] : List Int32)))), .unset] [(.int nC)]))
        refine GoW.on (fun t k => XS.ifNo Y40.here hx rfl (hb hby at_317) rfl ((if0 _ _).trans (teq hnC).2) k) ?_
        show GoW p.tables e below s _ _ _ _ _ (T40.setTop (mkF m 320 #[.val (.int p1), .val (.int p2), .val (.int p3), .val (.int p4), .val (.int bT), .val (.int bC), .val (.int (Int32.ofNat lT)), .val (.int (Int32.ofNat lC)), .val (.int nT), .val (.int nC), .val (.int (Int32.ofNat lR)), .val (.int cp), .val (.int r11), .val (.int r13), .val (.int r15), .val (.int r17), .val (.int r19), .val (.int r21), .val (.int (Int32.ofNat lR)), .val (.int r23), .val (.int r25), .val (.int r27), .val (.ref xs29), .val (.ref xs34), .val (.ref xs40), .val (.int (own_b ((([r11, r13, r15] : List Int32).take lT) = ([69, 68] : List Int32)))), .unset] []))
        refine GoW.on (fun t k => XS.iload Y40.here hx rfl (hb hby at_320) rfl (XS.iload Y40.here hx rfl (hb hby at_322) rfl k)) ?_
        show GoW p.tables e below s _ _ _ _ _ (T40.setTop (mkF m 324 #[.val (.int p1), .val (.int p2), .val (.int p3), .val (.int p4), .val (.int bT), .val (.int bC), .val (.int (Int32.ofNat lT)), .val (.int (Int32.ofNat lC)), .val (.int nT), .val (.int nC), .val (.int (Int32.ofNat lR)), .val (.int cp), .val (.int r11), .val (.int r13), .val (.int r15), .val (.int r17), .val (.int r19), .val (.int r21), .val (.int (Int32.ofNat lR)), .val (.int r23), .val (.int r25), .val (.int r27), .val (.ref xs29), .val (.ref xs34), .val (.ref xs40), .val (.int (own_b ((([r11, r13, r15] : List Int32).take lT) = ([69, 68] : List Int32)))), .unset] [(.int (Int32.ofNat lR)), (.int (Int32.ofNat lC))]))
        have J51 : GoW p.tables e below s (Q0 Z p1 p2 p3 p4 G1 h0 n0) Z own_EL room_1.cells room_1.slots (T40.setTop (mkF m 371 #[.val (.int p1), .val (.int p2), .val (.int p3), .val (.int p4), .val (.int bT), .val (.int bC), .val (.int (Int32.ofNat lT)), .val (.int (Int32.ofNat lC)), .val (.int nT), .val (.int nC), .val (.int (Int32.ofNat lR)), .val (.int cp), .val (.int r11), .val (.int r13), .val (.int r15), .val (.int r17), .val (.int r19), .val (.int r21), .val (.int (Int32.ofNat lR)), .val (.int r23), .val (.int r25), .val (.int r27), .val (.ref xs29), .val (.ref xs34), .val (.ref xs40), .val (.int (own_b ((([r11, r13, r15] : List Int32).take lT) = ([69, 68] : List Int32)))), .unset] [(.int (own_b ((([r17, r19, r21] : List Int32).take lC) = (([r23, r25, r27] : List Int32).take lR))))])) → GoW p.tables e below s (Q0 Z p1 p2 p3 p4 G1 h0 n0) Z own_EL room_1.cells room_1.slots (T40.setTop (mkF m 324 #[.val (.int p1), .val (.int p2), .val (.int p3), .val (.int p4), .val (.int bT), .val (.int bC), .val (.int (Int32.ofNat lT)), .val (.int (Int32.ofNat lC)), .val (.int nT), .val (.int nC), .val (.int (Int32.ofNat lR)), .val (.int cp), .val (.int r11), .val (.int r13), .val (.int r15), .val (.int r17), .val (.int r19), .val (.int r21), .val (.int (Int32.ofNat lR)), .val (.int r23), .val (.int r25), .val (.int r27), .val (.ref xs29), .val (.ref xs34), .val (.ref xs40), .val (.int (own_b ((([r11, r13, r15] : List Int32).take lT) = ([69, 68] : List Int32)))), .unset] [(.int (Int32.ofNat lR)), (.int (Int32.ofNat lC))])) := by
          intro kJ
          by_cases hc324_52 : (Int32.ofNat lC) = (Int32.ofNat lR)
          · refine GoW.on (fun t k => XS.icmpNo Y40.here hx rfl (hb hby at_324) rfl (teq hc324_52).2 k) ?_
            show GoW p.tables e below s _ _ _ _ _ (T40.setTop (mkF m 327 #[.val (.int p1), .val (.int p2), .val (.int p3), .val (.int p4), .val (.int bT), .val (.int bC), .val (.int (Int32.ofNat lT)), .val (.int (Int32.ofNat lC)), .val (.int nT), .val (.int nC), .val (.int (Int32.ofNat lR)), .val (.int cp), .val (.int r11), .val (.int r13), .val (.int r15), .val (.int r17), .val (.int r19), .val (.int r21), .val (.int (Int32.ofNat lR)), .val (.int r23), .val (.int r25), .val (.int r27), .val (.ref xs29), .val (.ref xs34), .val (.ref xs40), .val (.int (own_b ((([r11, r13, r15] : List Int32).take lT) = ([69, 68] : List Int32)))), .unset] []))
            refine GoW.on (fun t k => XS.iload Y40.here hx rfl (hb hby at_327) rfl (XS.iconst Y40.here hx rfl (hb hby at_329) k)) ?_
            show GoW p.tables e below s _ _ _ _ _ (T40.setTop (mkF m 330 #[.val (.int p1), .val (.int p2), .val (.int p3), .val (.int p4), .val (.int bT), .val (.int bC), .val (.int (Int32.ofNat lT)), .val (.int (Int32.ofNat lC)), .val (.int nT), .val (.int nC), .val (.int (Int32.ofNat lR)), .val (.int cp), .val (.int r11), .val (.int r13), .val (.int r15), .val (.int r17), .val (.int r19), .val (.int r21), .val (.int (Int32.ofNat lR)), .val (.int r23), .val (.int r25), .val (.int r27), .val (.ref xs29), .val (.ref xs34), .val (.ref xs40), .val (.int (own_b ((([r11, r13, r15] : List Int32).take lT) = ([69, 68] : List Int32)))), .unset] [(.int (1 : Int32)), (.int (Int32.ofNat lC))]))
            by_cases hc330_53 : (Int32.ofNat lC) < (1 : Int32)
            · refine GoW.on (fun t k => XS.icmpYes Y40.here hx rfl (pc0 := 330) (pc' := 340) rfl (hb hby at_330) rfl (tlt hc330_53).1 (by decide) (by decide) k) ?_
              show GoW p.tables e below s _ _ _ _ _ (T40.setTop (mkF m 340 #[.val (.int p1), .val (.int p2), .val (.int p3), .val (.int p4), .val (.int bT), .val (.int bC), .val (.int (Int32.ofNat lT)), .val (.int (Int32.ofNat lC)), .val (.int nT), .val (.int nC), .val (.int (Int32.ofNat lR)), .val (.int cp), .val (.int r11), .val (.int r13), .val (.int r15), .val (.int r17), .val (.int r19), .val (.int r21), .val (.int (Int32.ofNat lR)), .val (.int r23), .val (.int r25), .val (.int r27), .val (.ref xs29), .val (.ref xs34), .val (.ref xs40), .val (.int (own_b ((([r11, r13, r15] : List Int32).take lT) = ([69, 68] : List Int32)))), .unset] []))
              refine GoW.on (fun t k => XS.iload Y40.here hx rfl (hb hby at_340) rfl (XS.iconst Y40.here hx rfl (hb hby at_342) k)) ?_
              show GoW p.tables e below s _ _ _ _ _ (T40.setTop (mkF m 343 #[.val (.int p1), .val (.int p2), .val (.int p3), .val (.int p4), .val (.int bT), .val (.int bC), .val (.int (Int32.ofNat lT)), .val (.int (Int32.ofNat lC)), .val (.int nT), .val (.int nC), .val (.int (Int32.ofNat lR)), .val (.int cp), .val (.int r11), .val (.int r13), .val (.int r15), .val (.int r17), .val (.int r19), .val (.int r21), .val (.int (Int32.ofNat lR)), .val (.int r23), .val (.int r25), .val (.int r27), .val (.ref xs29), .val (.ref xs34), .val (.ref xs40), .val (.int (own_b ((([r11, r13, r15] : List Int32).take lT) = ([69, 68] : List Int32)))), .unset] [(.int (2 : Int32)), (.int (Int32.ofNat lC))]))
              by_cases hc343_54 : (Int32.ofNat lC) < (2 : Int32)
              · refine GoW.on (fun t k => XS.icmpYes Y40.here hx rfl (pc0 := 343) (pc' := 353) rfl (hb hby at_343) rfl (tlt hc343_54).1 (by decide) (by decide) k) ?_
                show GoW p.tables e below s _ _ _ _ _ (T40.setTop (mkF m 353 #[.val (.int p1), .val (.int p2), .val (.int p3), .val (.int p4), .val (.int bT), .val (.int bC), .val (.int (Int32.ofNat lT)), .val (.int (Int32.ofNat lC)), .val (.int nT), .val (.int nC), .val (.int (Int32.ofNat lR)), .val (.int cp), .val (.int r11), .val (.int r13), .val (.int r15), .val (.int r17), .val (.int r19), .val (.int r21), .val (.int (Int32.ofNat lR)), .val (.int r23), .val (.int r25), .val (.int r27), .val (.ref xs29), .val (.ref xs34), .val (.ref xs40), .val (.int (own_b ((([r11, r13, r15] : List Int32).take lT) = ([69, 68] : List Int32)))), .unset] []))
                refine GoW.on (fun t k => XS.iload Y40.here hx rfl (hb hby at_353) rfl (XS.iconst Y40.here hx rfl (hb hby at_355) k)) ?_
                show GoW p.tables e below s _ _ _ _ _ (T40.setTop (mkF m 356 #[.val (.int p1), .val (.int p2), .val (.int p3), .val (.int p4), .val (.int bT), .val (.int bC), .val (.int (Int32.ofNat lT)), .val (.int (Int32.ofNat lC)), .val (.int nT), .val (.int nC), .val (.int (Int32.ofNat lR)), .val (.int cp), .val (.int r11), .val (.int r13), .val (.int r15), .val (.int r17), .val (.int r19), .val (.int r21), .val (.int (Int32.ofNat lR)), .val (.int r23), .val (.int r25), .val (.int r27), .val (.ref xs29), .val (.ref xs34), .val (.ref xs40), .val (.int (own_b ((([r11, r13, r15] : List Int32).take lT) = ([69, 68] : List Int32)))), .unset] [(.int (3 : Int32)), (.int (Int32.ofNat lC))]))
                by_cases hc356_55 : (Int32.ofNat lC) < (3 : Int32)
                · refine GoW.on (fun t k => XS.icmpYes Y40.here hx rfl (pc0 := 356) (pc' := 366) rfl (hb hby at_356) rfl (tlt hc356_55).1 (by decide) (by decide) k) ?_
                  show GoW p.tables e below s _ _ _ _ _ (T40.setTop (mkF m 366 #[.val (.int p1), .val (.int p2), .val (.int p3), .val (.int p4), .val (.int bT), .val (.int bC), .val (.int (Int32.ofNat lT)), .val (.int (Int32.ofNat lC)), .val (.int nT), .val (.int nC), .val (.int (Int32.ofNat lR)), .val (.int cp), .val (.int r11), .val (.int r13), .val (.int r15), .val (.int r17), .val (.int r19), .val (.int r21), .val (.int (Int32.ofNat lR)), .val (.int r23), .val (.int r25), .val (.int r27), .val (.ref xs29), .val (.ref xs34), .val (.ref xs40), .val (.int (own_b ((([r11, r13, r15] : List Int32).take lT) = ([69, 68] : List Int32)))), .unset] []))
                  refine GoW.on (fun t k => XS.iconst Y40.here hx rfl (hb hby at_366) (XS.goto Y40.here hx rfl (pc0 := 367) (pc' := 371) rfl (hb hby at_367) (by decide) (by decide) k)) ?_
                  show GoW p.tables e below s _ _ _ _ _ (T40.setTop (mkF m 371 #[.val (.int p1), .val (.int p2), .val (.int p3), .val (.int p4), .val (.int bT), .val (.int bC), .val (.int (Int32.ofNat lT)), .val (.int (Int32.ofNat lC)), .val (.int nT), .val (.int nC), .val (.int (Int32.ofNat lR)), .val (.int cp), .val (.int r11), .val (.int r13), .val (.int r15), .val (.int r17), .val (.int r19), .val (.int r21), .val (.int (Int32.ofNat lR)), .val (.int r23), .val (.int r25), .val (.int r27), .val (.ref xs29), .val (.ref xs34), .val (.ref xs40), .val (.int (own_b ((([r11, r13, r15] : List Int32).take lT) = ([69, 68] : List Int32)))), .unset] [(.int (1 : Int32))]))
                  have eJ : own_b ((([r17, r19, r21] : List Int32).take lC) = (([r23, r25, r27] : List Int32).take lR)) = 1 := own_bt ((own_tke hlC hlR).mpr ⟨hc324_52, Or.inl hc330_53, Or.inl hc343_54, Or.inl hc356_55⟩)
                  rw [eJ] at kJ
                  exact kJ
                · refine GoW.on (fun t k => XS.icmpNo Y40.here hx rfl (hb hby at_356) rfl (flt hc356_55).1 k) ?_
                  show GoW p.tables e below s _ _ _ _ _ (T40.setTop (mkF m 359 #[.val (.int p1), .val (.int p2), .val (.int p3), .val (.int p4), .val (.int bT), .val (.int bC), .val (.int (Int32.ofNat lT)), .val (.int (Int32.ofNat lC)), .val (.int nT), .val (.int nC), .val (.int (Int32.ofNat lR)), .val (.int cp), .val (.int r11), .val (.int r13), .val (.int r15), .val (.int r17), .val (.int r19), .val (.int r21), .val (.int (Int32.ofNat lR)), .val (.int r23), .val (.int r25), .val (.int r27), .val (.ref xs29), .val (.ref xs34), .val (.ref xs40), .val (.int (own_b ((([r11, r13, r15] : List Int32).take lT) = ([69, 68] : List Int32)))), .unset] []))
                  refine GoW.on (fun t k => XS.iload Y40.here hx rfl (hb hby at_359) rfl (XS.iload Y40.here hx rfl (hb hby at_361) rfl k)) ?_
                  show GoW p.tables e below s _ _ _ _ _ (T40.setTop (mkF m 363 #[.val (.int p1), .val (.int p2), .val (.int p3), .val (.int p4), .val (.int bT), .val (.int bC), .val (.int (Int32.ofNat lT)), .val (.int (Int32.ofNat lC)), .val (.int nT), .val (.int nC), .val (.int (Int32.ofNat lR)), .val (.int cp), .val (.int r11), .val (.int r13), .val (.int r15), .val (.int r17), .val (.int r19), .val (.int r21), .val (.int (Int32.ofNat lR)), .val (.int r23), .val (.int r25), .val (.int r27), .val (.ref xs29), .val (.ref xs34), .val (.ref xs40), .val (.int (own_b ((([r11, r13, r15] : List Int32).take lT) = ([69, 68] : List Int32)))), .unset] [(.int r27), (.int r21)]))
                  by_cases hc363_56 : r21 = r27
                  · refine GoW.on (fun t k => XS.icmpNo Y40.here hx rfl (hb hby at_363) rfl (teq hc363_56).2 k) ?_
                    show GoW p.tables e below s _ _ _ _ _ (T40.setTop (mkF m 366 #[.val (.int p1), .val (.int p2), .val (.int p3), .val (.int p4), .val (.int bT), .val (.int bC), .val (.int (Int32.ofNat lT)), .val (.int (Int32.ofNat lC)), .val (.int nT), .val (.int nC), .val (.int (Int32.ofNat lR)), .val (.int cp), .val (.int r11), .val (.int r13), .val (.int r15), .val (.int r17), .val (.int r19), .val (.int r21), .val (.int (Int32.ofNat lR)), .val (.int r23), .val (.int r25), .val (.int r27), .val (.ref xs29), .val (.ref xs34), .val (.ref xs40), .val (.int (own_b ((([r11, r13, r15] : List Int32).take lT) = ([69, 68] : List Int32)))), .unset] []))
                    refine GoW.on (fun t k => XS.iconst Y40.here hx rfl (hb hby at_366) (XS.goto Y40.here hx rfl (pc0 := 367) (pc' := 371) rfl (hb hby at_367) (by decide) (by decide) k)) ?_
                    show GoW p.tables e below s _ _ _ _ _ (T40.setTop (mkF m 371 #[.val (.int p1), .val (.int p2), .val (.int p3), .val (.int p4), .val (.int bT), .val (.int bC), .val (.int (Int32.ofNat lT)), .val (.int (Int32.ofNat lC)), .val (.int nT), .val (.int nC), .val (.int (Int32.ofNat lR)), .val (.int cp), .val (.int r11), .val (.int r13), .val (.int r15), .val (.int r17), .val (.int r19), .val (.int r21), .val (.int (Int32.ofNat lR)), .val (.int r23), .val (.int r25), .val (.int r27), .val (.ref xs29), .val (.ref xs34), .val (.ref xs40), .val (.int (own_b ((([r11, r13, r15] : List Int32).take lT) = ([69, 68] : List Int32)))), .unset] [(.int (1 : Int32))]))
                    have eJ : own_b ((([r17, r19, r21] : List Int32).take lC) = (([r23, r25, r27] : List Int32).take lR)) = 1 := own_bt ((own_tke hlC hlR).mpr ⟨hc324_52, Or.inl hc330_53, Or.inl hc343_54, Or.inr hc363_56⟩)
                    rw [eJ] at kJ
                    exact kJ
                  · refine GoW.on (fun t k => XS.icmpYes Y40.here hx rfl (pc0 := 363) (pc' := 370) rfl (hb hby at_363) rfl (feq hc363_56).2 (by decide) (by decide) k) ?_
                    show GoW p.tables e below s _ _ _ _ _ (T40.setTop (mkF m 370 #[.val (.int p1), .val (.int p2), .val (.int p3), .val (.int p4), .val (.int bT), .val (.int bC), .val (.int (Int32.ofNat lT)), .val (.int (Int32.ofNat lC)), .val (.int nT), .val (.int nC), .val (.int (Int32.ofNat lR)), .val (.int cp), .val (.int r11), .val (.int r13), .val (.int r15), .val (.int r17), .val (.int r19), .val (.int r21), .val (.int (Int32.ofNat lR)), .val (.int r23), .val (.int r25), .val (.int r27), .val (.ref xs29), .val (.ref xs34), .val (.ref xs40), .val (.int (own_b ((([r11, r13, r15] : List Int32).take lT) = ([69, 68] : List Int32)))), .unset] []))
                    refine GoW.on (fun t k => XS.iconst Y40.here hx rfl (hb hby at_370) k) ?_
                    show GoW p.tables e below s _ _ _ _ _ (T40.setTop (mkF m 371 #[.val (.int p1), .val (.int p2), .val (.int p3), .val (.int p4), .val (.int bT), .val (.int bC), .val (.int (Int32.ofNat lT)), .val (.int (Int32.ofNat lC)), .val (.int nT), .val (.int nC), .val (.int (Int32.ofNat lR)), .val (.int cp), .val (.int r11), .val (.int r13), .val (.int r15), .val (.int r17), .val (.int r19), .val (.int r21), .val (.int (Int32.ofNat lR)), .val (.int r23), .val (.int r25), .val (.int r27), .val (.ref xs29), .val (.ref xs34), .val (.ref xs40), .val (.int (own_b ((([r11, r13, r15] : List Int32).take lT) = ([69, 68] : List Int32)))), .unset] [(.int (0 : Int32))]))
                    have eJ : own_b ((([r17, r19, r21] : List Int32).take lC) = (([r23, r25, r27] : List Int32).take lR)) = 0 := own_bf (fun q => ((own_tke hlC hlR).mp q).2.2.2.elim (fun z => hc356_55 z) (fun z => hc363_56 z))
                    rw [eJ] at kJ
                    exact kJ
              · refine GoW.on (fun t k => XS.icmpNo Y40.here hx rfl (hb hby at_343) rfl (flt hc343_54).1 k) ?_
                show GoW p.tables e below s _ _ _ _ _ (T40.setTop (mkF m 346 #[.val (.int p1), .val (.int p2), .val (.int p3), .val (.int p4), .val (.int bT), .val (.int bC), .val (.int (Int32.ofNat lT)), .val (.int (Int32.ofNat lC)), .val (.int nT), .val (.int nC), .val (.int (Int32.ofNat lR)), .val (.int cp), .val (.int r11), .val (.int r13), .val (.int r15), .val (.int r17), .val (.int r19), .val (.int r21), .val (.int (Int32.ofNat lR)), .val (.int r23), .val (.int r25), .val (.int r27), .val (.ref xs29), .val (.ref xs34), .val (.ref xs40), .val (.int (own_b ((([r11, r13, r15] : List Int32).take lT) = ([69, 68] : List Int32)))), .unset] []))
                refine GoW.on (fun t k => XS.iload Y40.here hx rfl (hb hby at_346) rfl (XS.iload Y40.here hx rfl (hb hby at_348) rfl k)) ?_
                show GoW p.tables e below s _ _ _ _ _ (T40.setTop (mkF m 350 #[.val (.int p1), .val (.int p2), .val (.int p3), .val (.int p4), .val (.int bT), .val (.int bC), .val (.int (Int32.ofNat lT)), .val (.int (Int32.ofNat lC)), .val (.int nT), .val (.int nC), .val (.int (Int32.ofNat lR)), .val (.int cp), .val (.int r11), .val (.int r13), .val (.int r15), .val (.int r17), .val (.int r19), .val (.int r21), .val (.int (Int32.ofNat lR)), .val (.int r23), .val (.int r25), .val (.int r27), .val (.ref xs29), .val (.ref xs34), .val (.ref xs40), .val (.int (own_b ((([r11, r13, r15] : List Int32).take lT) = ([69, 68] : List Int32)))), .unset] [(.int r25), (.int r19)]))
                by_cases hc350_57 : r19 = r25
                · refine GoW.on (fun t k => XS.icmpNo Y40.here hx rfl (hb hby at_350) rfl (teq hc350_57).2 k) ?_
                  show GoW p.tables e below s _ _ _ _ _ (T40.setTop (mkF m 353 #[.val (.int p1), .val (.int p2), .val (.int p3), .val (.int p4), .val (.int bT), .val (.int bC), .val (.int (Int32.ofNat lT)), .val (.int (Int32.ofNat lC)), .val (.int nT), .val (.int nC), .val (.int (Int32.ofNat lR)), .val (.int cp), .val (.int r11), .val (.int r13), .val (.int r15), .val (.int r17), .val (.int r19), .val (.int r21), .val (.int (Int32.ofNat lR)), .val (.int r23), .val (.int r25), .val (.int r27), .val (.ref xs29), .val (.ref xs34), .val (.ref xs40), .val (.int (own_b ((([r11, r13, r15] : List Int32).take lT) = ([69, 68] : List Int32)))), .unset] []))
                  refine GoW.on (fun t k => XS.iload Y40.here hx rfl (hb hby at_353) rfl (XS.iconst Y40.here hx rfl (hb hby at_355) k)) ?_
                  show GoW p.tables e below s _ _ _ _ _ (T40.setTop (mkF m 356 #[.val (.int p1), .val (.int p2), .val (.int p3), .val (.int p4), .val (.int bT), .val (.int bC), .val (.int (Int32.ofNat lT)), .val (.int (Int32.ofNat lC)), .val (.int nT), .val (.int nC), .val (.int (Int32.ofNat lR)), .val (.int cp), .val (.int r11), .val (.int r13), .val (.int r15), .val (.int r17), .val (.int r19), .val (.int r21), .val (.int (Int32.ofNat lR)), .val (.int r23), .val (.int r25), .val (.int r27), .val (.ref xs29), .val (.ref xs34), .val (.ref xs40), .val (.int (own_b ((([r11, r13, r15] : List Int32).take lT) = ([69, 68] : List Int32)))), .unset] [(.int (3 : Int32)), (.int (Int32.ofNat lC))]))
                  by_cases hc356_58 : (Int32.ofNat lC) < (3 : Int32)
                  · refine GoW.on (fun t k => XS.icmpYes Y40.here hx rfl (pc0 := 356) (pc' := 366) rfl (hb hby at_356) rfl (tlt hc356_58).1 (by decide) (by decide) k) ?_
                    show GoW p.tables e below s _ _ _ _ _ (T40.setTop (mkF m 366 #[.val (.int p1), .val (.int p2), .val (.int p3), .val (.int p4), .val (.int bT), .val (.int bC), .val (.int (Int32.ofNat lT)), .val (.int (Int32.ofNat lC)), .val (.int nT), .val (.int nC), .val (.int (Int32.ofNat lR)), .val (.int cp), .val (.int r11), .val (.int r13), .val (.int r15), .val (.int r17), .val (.int r19), .val (.int r21), .val (.int (Int32.ofNat lR)), .val (.int r23), .val (.int r25), .val (.int r27), .val (.ref xs29), .val (.ref xs34), .val (.ref xs40), .val (.int (own_b ((([r11, r13, r15] : List Int32).take lT) = ([69, 68] : List Int32)))), .unset] []))
                    refine GoW.on (fun t k => XS.iconst Y40.here hx rfl (hb hby at_366) (XS.goto Y40.here hx rfl (pc0 := 367) (pc' := 371) rfl (hb hby at_367) (by decide) (by decide) k)) ?_
                    show GoW p.tables e below s _ _ _ _ _ (T40.setTop (mkF m 371 #[.val (.int p1), .val (.int p2), .val (.int p3), .val (.int p4), .val (.int bT), .val (.int bC), .val (.int (Int32.ofNat lT)), .val (.int (Int32.ofNat lC)), .val (.int nT), .val (.int nC), .val (.int (Int32.ofNat lR)), .val (.int cp), .val (.int r11), .val (.int r13), .val (.int r15), .val (.int r17), .val (.int r19), .val (.int r21), .val (.int (Int32.ofNat lR)), .val (.int r23), .val (.int r25), .val (.int r27), .val (.ref xs29), .val (.ref xs34), .val (.ref xs40), .val (.int (own_b ((([r11, r13, r15] : List Int32).take lT) = ([69, 68] : List Int32)))), .unset] [(.int (1 : Int32))]))
                    have eJ : own_b ((([r17, r19, r21] : List Int32).take lC) = (([r23, r25, r27] : List Int32).take lR)) = 1 := own_bt ((own_tke hlC hlR).mpr ⟨hc324_52, Or.inl hc330_53, Or.inr hc350_57, Or.inl hc356_58⟩)
                    rw [eJ] at kJ
                    exact kJ
                  · refine GoW.on (fun t k => XS.icmpNo Y40.here hx rfl (hb hby at_356) rfl (flt hc356_58).1 k) ?_
                    show GoW p.tables e below s _ _ _ _ _ (T40.setTop (mkF m 359 #[.val (.int p1), .val (.int p2), .val (.int p3), .val (.int p4), .val (.int bT), .val (.int bC), .val (.int (Int32.ofNat lT)), .val (.int (Int32.ofNat lC)), .val (.int nT), .val (.int nC), .val (.int (Int32.ofNat lR)), .val (.int cp), .val (.int r11), .val (.int r13), .val (.int r15), .val (.int r17), .val (.int r19), .val (.int r21), .val (.int (Int32.ofNat lR)), .val (.int r23), .val (.int r25), .val (.int r27), .val (.ref xs29), .val (.ref xs34), .val (.ref xs40), .val (.int (own_b ((([r11, r13, r15] : List Int32).take lT) = ([69, 68] : List Int32)))), .unset] []))
                    refine GoW.on (fun t k => XS.iload Y40.here hx rfl (hb hby at_359) rfl (XS.iload Y40.here hx rfl (hb hby at_361) rfl k)) ?_
                    show GoW p.tables e below s _ _ _ _ _ (T40.setTop (mkF m 363 #[.val (.int p1), .val (.int p2), .val (.int p3), .val (.int p4), .val (.int bT), .val (.int bC), .val (.int (Int32.ofNat lT)), .val (.int (Int32.ofNat lC)), .val (.int nT), .val (.int nC), .val (.int (Int32.ofNat lR)), .val (.int cp), .val (.int r11), .val (.int r13), .val (.int r15), .val (.int r17), .val (.int r19), .val (.int r21), .val (.int (Int32.ofNat lR)), .val (.int r23), .val (.int r25), .val (.int r27), .val (.ref xs29), .val (.ref xs34), .val (.ref xs40), .val (.int (own_b ((([r11, r13, r15] : List Int32).take lT) = ([69, 68] : List Int32)))), .unset] [(.int r27), (.int r21)]))
                    by_cases hc363_59 : r21 = r27
                    · refine GoW.on (fun t k => XS.icmpNo Y40.here hx rfl (hb hby at_363) rfl (teq hc363_59).2 k) ?_
                      show GoW p.tables e below s _ _ _ _ _ (T40.setTop (mkF m 366 #[.val (.int p1), .val (.int p2), .val (.int p3), .val (.int p4), .val (.int bT), .val (.int bC), .val (.int (Int32.ofNat lT)), .val (.int (Int32.ofNat lC)), .val (.int nT), .val (.int nC), .val (.int (Int32.ofNat lR)), .val (.int cp), .val (.int r11), .val (.int r13), .val (.int r15), .val (.int r17), .val (.int r19), .val (.int r21), .val (.int (Int32.ofNat lR)), .val (.int r23), .val (.int r25), .val (.int r27), .val (.ref xs29), .val (.ref xs34), .val (.ref xs40), .val (.int (own_b ((([r11, r13, r15] : List Int32).take lT) = ([69, 68] : List Int32)))), .unset] []))
                      refine GoW.on (fun t k => XS.iconst Y40.here hx rfl (hb hby at_366) (XS.goto Y40.here hx rfl (pc0 := 367) (pc' := 371) rfl (hb hby at_367) (by decide) (by decide) k)) ?_
                      show GoW p.tables e below s _ _ _ _ _ (T40.setTop (mkF m 371 #[.val (.int p1), .val (.int p2), .val (.int p3), .val (.int p4), .val (.int bT), .val (.int bC), .val (.int (Int32.ofNat lT)), .val (.int (Int32.ofNat lC)), .val (.int nT), .val (.int nC), .val (.int (Int32.ofNat lR)), .val (.int cp), .val (.int r11), .val (.int r13), .val (.int r15), .val (.int r17), .val (.int r19), .val (.int r21), .val (.int (Int32.ofNat lR)), .val (.int r23), .val (.int r25), .val (.int r27), .val (.ref xs29), .val (.ref xs34), .val (.ref xs40), .val (.int (own_b ((([r11, r13, r15] : List Int32).take lT) = ([69, 68] : List Int32)))), .unset] [(.int (1 : Int32))]))
                      have eJ : own_b ((([r17, r19, r21] : List Int32).take lC) = (([r23, r25, r27] : List Int32).take lR)) = 1 := own_bt ((own_tke hlC hlR).mpr ⟨hc324_52, Or.inl hc330_53, Or.inr hc350_57, Or.inr hc363_59⟩)
                      rw [eJ] at kJ
                      exact kJ
                    · refine GoW.on (fun t k => XS.icmpYes Y40.here hx rfl (pc0 := 363) (pc' := 370) rfl (hb hby at_363) rfl (feq hc363_59).2 (by decide) (by decide) k) ?_
                      show GoW p.tables e below s _ _ _ _ _ (T40.setTop (mkF m 370 #[.val (.int p1), .val (.int p2), .val (.int p3), .val (.int p4), .val (.int bT), .val (.int bC), .val (.int (Int32.ofNat lT)), .val (.int (Int32.ofNat lC)), .val (.int nT), .val (.int nC), .val (.int (Int32.ofNat lR)), .val (.int cp), .val (.int r11), .val (.int r13), .val (.int r15), .val (.int r17), .val (.int r19), .val (.int r21), .val (.int (Int32.ofNat lR)), .val (.int r23), .val (.int r25), .val (.int r27), .val (.ref xs29), .val (.ref xs34), .val (.ref xs40), .val (.int (own_b ((([r11, r13, r15] : List Int32).take lT) = ([69, 68] : List Int32)))), .unset] []))
                      refine GoW.on (fun t k => XS.iconst Y40.here hx rfl (hb hby at_370) k) ?_
                      show GoW p.tables e below s _ _ _ _ _ (T40.setTop (mkF m 371 #[.val (.int p1), .val (.int p2), .val (.int p3), .val (.int p4), .val (.int bT), .val (.int bC), .val (.int (Int32.ofNat lT)), .val (.int (Int32.ofNat lC)), .val (.int nT), .val (.int nC), .val (.int (Int32.ofNat lR)), .val (.int cp), .val (.int r11), .val (.int r13), .val (.int r15), .val (.int r17), .val (.int r19), .val (.int r21), .val (.int (Int32.ofNat lR)), .val (.int r23), .val (.int r25), .val (.int r27), .val (.ref xs29), .val (.ref xs34), .val (.ref xs40), .val (.int (own_b ((([r11, r13, r15] : List Int32).take lT) = ([69, 68] : List Int32)))), .unset] [(.int (0 : Int32))]))
                      have eJ : own_b ((([r17, r19, r21] : List Int32).take lC) = (([r23, r25, r27] : List Int32).take lR)) = 0 := own_bf (fun q => ((own_tke hlC hlR).mp q).2.2.2.elim (fun z => hc356_58 z) (fun z => hc363_59 z))
                      rw [eJ] at kJ
                      exact kJ
                · refine GoW.on (fun t k => XS.icmpYes Y40.here hx rfl (pc0 := 350) (pc' := 370) rfl (hb hby at_350) rfl (feq hc350_57).2 (by decide) (by decide) k) ?_
                  show GoW p.tables e below s _ _ _ _ _ (T40.setTop (mkF m 370 #[.val (.int p1), .val (.int p2), .val (.int p3), .val (.int p4), .val (.int bT), .val (.int bC), .val (.int (Int32.ofNat lT)), .val (.int (Int32.ofNat lC)), .val (.int nT), .val (.int nC), .val (.int (Int32.ofNat lR)), .val (.int cp), .val (.int r11), .val (.int r13), .val (.int r15), .val (.int r17), .val (.int r19), .val (.int r21), .val (.int (Int32.ofNat lR)), .val (.int r23), .val (.int r25), .val (.int r27), .val (.ref xs29), .val (.ref xs34), .val (.ref xs40), .val (.int (own_b ((([r11, r13, r15] : List Int32).take lT) = ([69, 68] : List Int32)))), .unset] []))
                  refine GoW.on (fun t k => XS.iconst Y40.here hx rfl (hb hby at_370) k) ?_
                  show GoW p.tables e below s _ _ _ _ _ (T40.setTop (mkF m 371 #[.val (.int p1), .val (.int p2), .val (.int p3), .val (.int p4), .val (.int bT), .val (.int bC), .val (.int (Int32.ofNat lT)), .val (.int (Int32.ofNat lC)), .val (.int nT), .val (.int nC), .val (.int (Int32.ofNat lR)), .val (.int cp), .val (.int r11), .val (.int r13), .val (.int r15), .val (.int r17), .val (.int r19), .val (.int r21), .val (.int (Int32.ofNat lR)), .val (.int r23), .val (.int r25), .val (.int r27), .val (.ref xs29), .val (.ref xs34), .val (.ref xs40), .val (.int (own_b ((([r11, r13, r15] : List Int32).take lT) = ([69, 68] : List Int32)))), .unset] [(.int (0 : Int32))]))
                  have eJ : own_b ((([r17, r19, r21] : List Int32).take lC) = (([r23, r25, r27] : List Int32).take lR)) = 0 := own_bf (fun q => ((own_tke hlC hlR).mp q).2.2.1.elim (fun z => hc343_54 z) (fun z => hc350_57 z))
                  rw [eJ] at kJ
                  exact kJ
            · refine GoW.on (fun t k => XS.icmpNo Y40.here hx rfl (hb hby at_330) rfl (flt hc330_53).1 k) ?_
              show GoW p.tables e below s _ _ _ _ _ (T40.setTop (mkF m 333 #[.val (.int p1), .val (.int p2), .val (.int p3), .val (.int p4), .val (.int bT), .val (.int bC), .val (.int (Int32.ofNat lT)), .val (.int (Int32.ofNat lC)), .val (.int nT), .val (.int nC), .val (.int (Int32.ofNat lR)), .val (.int cp), .val (.int r11), .val (.int r13), .val (.int r15), .val (.int r17), .val (.int r19), .val (.int r21), .val (.int (Int32.ofNat lR)), .val (.int r23), .val (.int r25), .val (.int r27), .val (.ref xs29), .val (.ref xs34), .val (.ref xs40), .val (.int (own_b ((([r11, r13, r15] : List Int32).take lT) = ([69, 68] : List Int32)))), .unset] []))
              refine GoW.on (fun t k => XS.iload Y40.here hx rfl (hb hby at_333) rfl (XS.iload Y40.here hx rfl (hb hby at_335) rfl k)) ?_
              show GoW p.tables e below s _ _ _ _ _ (T40.setTop (mkF m 337 #[.val (.int p1), .val (.int p2), .val (.int p3), .val (.int p4), .val (.int bT), .val (.int bC), .val (.int (Int32.ofNat lT)), .val (.int (Int32.ofNat lC)), .val (.int nT), .val (.int nC), .val (.int (Int32.ofNat lR)), .val (.int cp), .val (.int r11), .val (.int r13), .val (.int r15), .val (.int r17), .val (.int r19), .val (.int r21), .val (.int (Int32.ofNat lR)), .val (.int r23), .val (.int r25), .val (.int r27), .val (.ref xs29), .val (.ref xs34), .val (.ref xs40), .val (.int (own_b ((([r11, r13, r15] : List Int32).take lT) = ([69, 68] : List Int32)))), .unset] [(.int r23), (.int r17)]))
              by_cases hc337_60 : r17 = r23
              · refine GoW.on (fun t k => XS.icmpNo Y40.here hx rfl (hb hby at_337) rfl (teq hc337_60).2 k) ?_
                show GoW p.tables e below s _ _ _ _ _ (T40.setTop (mkF m 340 #[.val (.int p1), .val (.int p2), .val (.int p3), .val (.int p4), .val (.int bT), .val (.int bC), .val (.int (Int32.ofNat lT)), .val (.int (Int32.ofNat lC)), .val (.int nT), .val (.int nC), .val (.int (Int32.ofNat lR)), .val (.int cp), .val (.int r11), .val (.int r13), .val (.int r15), .val (.int r17), .val (.int r19), .val (.int r21), .val (.int (Int32.ofNat lR)), .val (.int r23), .val (.int r25), .val (.int r27), .val (.ref xs29), .val (.ref xs34), .val (.ref xs40), .val (.int (own_b ((([r11, r13, r15] : List Int32).take lT) = ([69, 68] : List Int32)))), .unset] []))
                refine GoW.on (fun t k => XS.iload Y40.here hx rfl (hb hby at_340) rfl (XS.iconst Y40.here hx rfl (hb hby at_342) k)) ?_
                show GoW p.tables e below s _ _ _ _ _ (T40.setTop (mkF m 343 #[.val (.int p1), .val (.int p2), .val (.int p3), .val (.int p4), .val (.int bT), .val (.int bC), .val (.int (Int32.ofNat lT)), .val (.int (Int32.ofNat lC)), .val (.int nT), .val (.int nC), .val (.int (Int32.ofNat lR)), .val (.int cp), .val (.int r11), .val (.int r13), .val (.int r15), .val (.int r17), .val (.int r19), .val (.int r21), .val (.int (Int32.ofNat lR)), .val (.int r23), .val (.int r25), .val (.int r27), .val (.ref xs29), .val (.ref xs34), .val (.ref xs40), .val (.int (own_b ((([r11, r13, r15] : List Int32).take lT) = ([69, 68] : List Int32)))), .unset] [(.int (2 : Int32)), (.int (Int32.ofNat lC))]))
                by_cases hc343_61 : (Int32.ofNat lC) < (2 : Int32)
                · refine GoW.on (fun t k => XS.icmpYes Y40.here hx rfl (pc0 := 343) (pc' := 353) rfl (hb hby at_343) rfl (tlt hc343_61).1 (by decide) (by decide) k) ?_
                  show GoW p.tables e below s _ _ _ _ _ (T40.setTop (mkF m 353 #[.val (.int p1), .val (.int p2), .val (.int p3), .val (.int p4), .val (.int bT), .val (.int bC), .val (.int (Int32.ofNat lT)), .val (.int (Int32.ofNat lC)), .val (.int nT), .val (.int nC), .val (.int (Int32.ofNat lR)), .val (.int cp), .val (.int r11), .val (.int r13), .val (.int r15), .val (.int r17), .val (.int r19), .val (.int r21), .val (.int (Int32.ofNat lR)), .val (.int r23), .val (.int r25), .val (.int r27), .val (.ref xs29), .val (.ref xs34), .val (.ref xs40), .val (.int (own_b ((([r11, r13, r15] : List Int32).take lT) = ([69, 68] : List Int32)))), .unset] []))
                  refine GoW.on (fun t k => XS.iload Y40.here hx rfl (hb hby at_353) rfl (XS.iconst Y40.here hx rfl (hb hby at_355) k)) ?_
                  show GoW p.tables e below s _ _ _ _ _ (T40.setTop (mkF m 356 #[.val (.int p1), .val (.int p2), .val (.int p3), .val (.int p4), .val (.int bT), .val (.int bC), .val (.int (Int32.ofNat lT)), .val (.int (Int32.ofNat lC)), .val (.int nT), .val (.int nC), .val (.int (Int32.ofNat lR)), .val (.int cp), .val (.int r11), .val (.int r13), .val (.int r15), .val (.int r17), .val (.int r19), .val (.int r21), .val (.int (Int32.ofNat lR)), .val (.int r23), .val (.int r25), .val (.int r27), .val (.ref xs29), .val (.ref xs34), .val (.ref xs40), .val (.int (own_b ((([r11, r13, r15] : List Int32).take lT) = ([69, 68] : List Int32)))), .unset] [(.int (3 : Int32)), (.int (Int32.ofNat lC))]))
                  by_cases hc356_62 : (Int32.ofNat lC) < (3 : Int32)
                  · refine GoW.on (fun t k => XS.icmpYes Y40.here hx rfl (pc0 := 356) (pc' := 366) rfl (hb hby at_356) rfl (tlt hc356_62).1 (by decide) (by decide) k) ?_
                    show GoW p.tables e below s _ _ _ _ _ (T40.setTop (mkF m 366 #[.val (.int p1), .val (.int p2), .val (.int p3), .val (.int p4), .val (.int bT), .val (.int bC), .val (.int (Int32.ofNat lT)), .val (.int (Int32.ofNat lC)), .val (.int nT), .val (.int nC), .val (.int (Int32.ofNat lR)), .val (.int cp), .val (.int r11), .val (.int r13), .val (.int r15), .val (.int r17), .val (.int r19), .val (.int r21), .val (.int (Int32.ofNat lR)), .val (.int r23), .val (.int r25), .val (.int r27), .val (.ref xs29), .val (.ref xs34), .val (.ref xs40), .val (.int (own_b ((([r11, r13, r15] : List Int32).take lT) = ([69, 68] : List Int32)))), .unset] []))
                    refine GoW.on (fun t k => XS.iconst Y40.here hx rfl (hb hby at_366) (XS.goto Y40.here hx rfl (pc0 := 367) (pc' := 371) rfl (hb hby at_367) (by decide) (by decide) k)) ?_
                    show GoW p.tables e below s _ _ _ _ _ (T40.setTop (mkF m 371 #[.val (.int p1), .val (.int p2), .val (.int p3), .val (.int p4), .val (.int bT), .val (.int bC), .val (.int (Int32.ofNat lT)), .val (.int (Int32.ofNat lC)), .val (.int nT), .val (.int nC), .val (.int (Int32.ofNat lR)), .val (.int cp), .val (.int r11), .val (.int r13), .val (.int r15), .val (.int r17), .val (.int r19), .val (.int r21), .val (.int (Int32.ofNat lR)), .val (.int r23), .val (.int r25), .val (.int r27), .val (.ref xs29), .val (.ref xs34), .val (.ref xs40), .val (.int (own_b ((([r11, r13, r15] : List Int32).take lT) = ([69, 68] : List Int32)))), .unset] [(.int (1 : Int32))]))
                    have eJ : own_b ((([r17, r19, r21] : List Int32).take lC) = (([r23, r25, r27] : List Int32).take lR)) = 1 := own_bt ((own_tke hlC hlR).mpr ⟨hc324_52, Or.inr hc337_60, Or.inl hc343_61, Or.inl hc356_62⟩)
                    rw [eJ] at kJ
                    exact kJ
                  · refine GoW.on (fun t k => XS.icmpNo Y40.here hx rfl (hb hby at_356) rfl (flt hc356_62).1 k) ?_
                    show GoW p.tables e below s _ _ _ _ _ (T40.setTop (mkF m 359 #[.val (.int p1), .val (.int p2), .val (.int p3), .val (.int p4), .val (.int bT), .val (.int bC), .val (.int (Int32.ofNat lT)), .val (.int (Int32.ofNat lC)), .val (.int nT), .val (.int nC), .val (.int (Int32.ofNat lR)), .val (.int cp), .val (.int r11), .val (.int r13), .val (.int r15), .val (.int r17), .val (.int r19), .val (.int r21), .val (.int (Int32.ofNat lR)), .val (.int r23), .val (.int r25), .val (.int r27), .val (.ref xs29), .val (.ref xs34), .val (.ref xs40), .val (.int (own_b ((([r11, r13, r15] : List Int32).take lT) = ([69, 68] : List Int32)))), .unset] []))
                    refine GoW.on (fun t k => XS.iload Y40.here hx rfl (hb hby at_359) rfl (XS.iload Y40.here hx rfl (hb hby at_361) rfl k)) ?_
                    show GoW p.tables e below s _ _ _ _ _ (T40.setTop (mkF m 363 #[.val (.int p1), .val (.int p2), .val (.int p3), .val (.int p4), .val (.int bT), .val (.int bC), .val (.int (Int32.ofNat lT)), .val (.int (Int32.ofNat lC)), .val (.int nT), .val (.int nC), .val (.int (Int32.ofNat lR)), .val (.int cp), .val (.int r11), .val (.int r13), .val (.int r15), .val (.int r17), .val (.int r19), .val (.int r21), .val (.int (Int32.ofNat lR)), .val (.int r23), .val (.int r25), .val (.int r27), .val (.ref xs29), .val (.ref xs34), .val (.ref xs40), .val (.int (own_b ((([r11, r13, r15] : List Int32).take lT) = ([69, 68] : List Int32)))), .unset] [(.int r27), (.int r21)]))
                    by_cases hc363_63 : r21 = r27
                    · refine GoW.on (fun t k => XS.icmpNo Y40.here hx rfl (hb hby at_363) rfl (teq hc363_63).2 k) ?_
                      show GoW p.tables e below s _ _ _ _ _ (T40.setTop (mkF m 366 #[.val (.int p1), .val (.int p2), .val (.int p3), .val (.int p4), .val (.int bT), .val (.int bC), .val (.int (Int32.ofNat lT)), .val (.int (Int32.ofNat lC)), .val (.int nT), .val (.int nC), .val (.int (Int32.ofNat lR)), .val (.int cp), .val (.int r11), .val (.int r13), .val (.int r15), .val (.int r17), .val (.int r19), .val (.int r21), .val (.int (Int32.ofNat lR)), .val (.int r23), .val (.int r25), .val (.int r27), .val (.ref xs29), .val (.ref xs34), .val (.ref xs40), .val (.int (own_b ((([r11, r13, r15] : List Int32).take lT) = ([69, 68] : List Int32)))), .unset] []))
                      refine GoW.on (fun t k => XS.iconst Y40.here hx rfl (hb hby at_366) (XS.goto Y40.here hx rfl (pc0 := 367) (pc' := 371) rfl (hb hby at_367) (by decide) (by decide) k)) ?_
                      show GoW p.tables e below s _ _ _ _ _ (T40.setTop (mkF m 371 #[.val (.int p1), .val (.int p2), .val (.int p3), .val (.int p4), .val (.int bT), .val (.int bC), .val (.int (Int32.ofNat lT)), .val (.int (Int32.ofNat lC)), .val (.int nT), .val (.int nC), .val (.int (Int32.ofNat lR)), .val (.int cp), .val (.int r11), .val (.int r13), .val (.int r15), .val (.int r17), .val (.int r19), .val (.int r21), .val (.int (Int32.ofNat lR)), .val (.int r23), .val (.int r25), .val (.int r27), .val (.ref xs29), .val (.ref xs34), .val (.ref xs40), .val (.int (own_b ((([r11, r13, r15] : List Int32).take lT) = ([69, 68] : List Int32)))), .unset] [(.int (1 : Int32))]))
                      have eJ : own_b ((([r17, r19, r21] : List Int32).take lC) = (([r23, r25, r27] : List Int32).take lR)) = 1 := own_bt ((own_tke hlC hlR).mpr ⟨hc324_52, Or.inr hc337_60, Or.inl hc343_61, Or.inr hc363_63⟩)
                      rw [eJ] at kJ
                      exact kJ
                    · refine GoW.on (fun t k => XS.icmpYes Y40.here hx rfl (pc0 := 363) (pc' := 370) rfl (hb hby at_363) rfl (feq hc363_63).2 (by decide) (by decide) k) ?_
                      show GoW p.tables e below s _ _ _ _ _ (T40.setTop (mkF m 370 #[.val (.int p1), .val (.int p2), .val (.int p3), .val (.int p4), .val (.int bT), .val (.int bC), .val (.int (Int32.ofNat lT)), .val (.int (Int32.ofNat lC)), .val (.int nT), .val (.int nC), .val (.int (Int32.ofNat lR)), .val (.int cp), .val (.int r11), .val (.int r13), .val (.int r15), .val (.int r17), .val (.int r19), .val (.int r21), .val (.int (Int32.ofNat lR)), .val (.int r23), .val (.int r25), .val (.int r27), .val (.ref xs29), .val (.ref xs34), .val (.ref xs40), .val (.int (own_b ((([r11, r13, r15] : List Int32).take lT) = ([69, 68] : List Int32)))), .unset] []))
                      refine GoW.on (fun t k => XS.iconst Y40.here hx rfl (hb hby at_370) k) ?_
                      show GoW p.tables e below s _ _ _ _ _ (T40.setTop (mkF m 371 #[.val (.int p1), .val (.int p2), .val (.int p3), .val (.int p4), .val (.int bT), .val (.int bC), .val (.int (Int32.ofNat lT)), .val (.int (Int32.ofNat lC)), .val (.int nT), .val (.int nC), .val (.int (Int32.ofNat lR)), .val (.int cp), .val (.int r11), .val (.int r13), .val (.int r15), .val (.int r17), .val (.int r19), .val (.int r21), .val (.int (Int32.ofNat lR)), .val (.int r23), .val (.int r25), .val (.int r27), .val (.ref xs29), .val (.ref xs34), .val (.ref xs40), .val (.int (own_b ((([r11, r13, r15] : List Int32).take lT) = ([69, 68] : List Int32)))), .unset] [(.int (0 : Int32))]))
                      have eJ : own_b ((([r17, r19, r21] : List Int32).take lC) = (([r23, r25, r27] : List Int32).take lR)) = 0 := own_bf (fun q => ((own_tke hlC hlR).mp q).2.2.2.elim (fun z => hc356_62 z) (fun z => hc363_63 z))
                      rw [eJ] at kJ
                      exact kJ
                · refine GoW.on (fun t k => XS.icmpNo Y40.here hx rfl (hb hby at_343) rfl (flt hc343_61).1 k) ?_
                  show GoW p.tables e below s _ _ _ _ _ (T40.setTop (mkF m 346 #[.val (.int p1), .val (.int p2), .val (.int p3), .val (.int p4), .val (.int bT), .val (.int bC), .val (.int (Int32.ofNat lT)), .val (.int (Int32.ofNat lC)), .val (.int nT), .val (.int nC), .val (.int (Int32.ofNat lR)), .val (.int cp), .val (.int r11), .val (.int r13), .val (.int r15), .val (.int r17), .val (.int r19), .val (.int r21), .val (.int (Int32.ofNat lR)), .val (.int r23), .val (.int r25), .val (.int r27), .val (.ref xs29), .val (.ref xs34), .val (.ref xs40), .val (.int (own_b ((([r11, r13, r15] : List Int32).take lT) = ([69, 68] : List Int32)))), .unset] []))
                  refine GoW.on (fun t k => XS.iload Y40.here hx rfl (hb hby at_346) rfl (XS.iload Y40.here hx rfl (hb hby at_348) rfl k)) ?_
                  show GoW p.tables e below s _ _ _ _ _ (T40.setTop (mkF m 350 #[.val (.int p1), .val (.int p2), .val (.int p3), .val (.int p4), .val (.int bT), .val (.int bC), .val (.int (Int32.ofNat lT)), .val (.int (Int32.ofNat lC)), .val (.int nT), .val (.int nC), .val (.int (Int32.ofNat lR)), .val (.int cp), .val (.int r11), .val (.int r13), .val (.int r15), .val (.int r17), .val (.int r19), .val (.int r21), .val (.int (Int32.ofNat lR)), .val (.int r23), .val (.int r25), .val (.int r27), .val (.ref xs29), .val (.ref xs34), .val (.ref xs40), .val (.int (own_b ((([r11, r13, r15] : List Int32).take lT) = ([69, 68] : List Int32)))), .unset] [(.int r25), (.int r19)]))
                  by_cases hc350_64 : r19 = r25
                  · refine GoW.on (fun t k => XS.icmpNo Y40.here hx rfl (hb hby at_350) rfl (teq hc350_64).2 k) ?_
                    show GoW p.tables e below s _ _ _ _ _ (T40.setTop (mkF m 353 #[.val (.int p1), .val (.int p2), .val (.int p3), .val (.int p4), .val (.int bT), .val (.int bC), .val (.int (Int32.ofNat lT)), .val (.int (Int32.ofNat lC)), .val (.int nT), .val (.int nC), .val (.int (Int32.ofNat lR)), .val (.int cp), .val (.int r11), .val (.int r13), .val (.int r15), .val (.int r17), .val (.int r19), .val (.int r21), .val (.int (Int32.ofNat lR)), .val (.int r23), .val (.int r25), .val (.int r27), .val (.ref xs29), .val (.ref xs34), .val (.ref xs40), .val (.int (own_b ((([r11, r13, r15] : List Int32).take lT) = ([69, 68] : List Int32)))), .unset] []))
                    refine GoW.on (fun t k => XS.iload Y40.here hx rfl (hb hby at_353) rfl (XS.iconst Y40.here hx rfl (hb hby at_355) k)) ?_
                    show GoW p.tables e below s _ _ _ _ _ (T40.setTop (mkF m 356 #[.val (.int p1), .val (.int p2), .val (.int p3), .val (.int p4), .val (.int bT), .val (.int bC), .val (.int (Int32.ofNat lT)), .val (.int (Int32.ofNat lC)), .val (.int nT), .val (.int nC), .val (.int (Int32.ofNat lR)), .val (.int cp), .val (.int r11), .val (.int r13), .val (.int r15), .val (.int r17), .val (.int r19), .val (.int r21), .val (.int (Int32.ofNat lR)), .val (.int r23), .val (.int r25), .val (.int r27), .val (.ref xs29), .val (.ref xs34), .val (.ref xs40), .val (.int (own_b ((([r11, r13, r15] : List Int32).take lT) = ([69, 68] : List Int32)))), .unset] [(.int (3 : Int32)), (.int (Int32.ofNat lC))]))
                    by_cases hc356_65 : (Int32.ofNat lC) < (3 : Int32)
                    · refine GoW.on (fun t k => XS.icmpYes Y40.here hx rfl (pc0 := 356) (pc' := 366) rfl (hb hby at_356) rfl (tlt hc356_65).1 (by decide) (by decide) k) ?_
                      show GoW p.tables e below s _ _ _ _ _ (T40.setTop (mkF m 366 #[.val (.int p1), .val (.int p2), .val (.int p3), .val (.int p4), .val (.int bT), .val (.int bC), .val (.int (Int32.ofNat lT)), .val (.int (Int32.ofNat lC)), .val (.int nT), .val (.int nC), .val (.int (Int32.ofNat lR)), .val (.int cp), .val (.int r11), .val (.int r13), .val (.int r15), .val (.int r17), .val (.int r19), .val (.int r21), .val (.int (Int32.ofNat lR)), .val (.int r23), .val (.int r25), .val (.int r27), .val (.ref xs29), .val (.ref xs34), .val (.ref xs40), .val (.int (own_b ((([r11, r13, r15] : List Int32).take lT) = ([69, 68] : List Int32)))), .unset] []))
                      refine GoW.on (fun t k => XS.iconst Y40.here hx rfl (hb hby at_366) (XS.goto Y40.here hx rfl (pc0 := 367) (pc' := 371) rfl (hb hby at_367) (by decide) (by decide) k)) ?_
                      show GoW p.tables e below s _ _ _ _ _ (T40.setTop (mkF m 371 #[.val (.int p1), .val (.int p2), .val (.int p3), .val (.int p4), .val (.int bT), .val (.int bC), .val (.int (Int32.ofNat lT)), .val (.int (Int32.ofNat lC)), .val (.int nT), .val (.int nC), .val (.int (Int32.ofNat lR)), .val (.int cp), .val (.int r11), .val (.int r13), .val (.int r15), .val (.int r17), .val (.int r19), .val (.int r21), .val (.int (Int32.ofNat lR)), .val (.int r23), .val (.int r25), .val (.int r27), .val (.ref xs29), .val (.ref xs34), .val (.ref xs40), .val (.int (own_b ((([r11, r13, r15] : List Int32).take lT) = ([69, 68] : List Int32)))), .unset] [(.int (1 : Int32))]))
                      have eJ : own_b ((([r17, r19, r21] : List Int32).take lC) = (([r23, r25, r27] : List Int32).take lR)) = 1 := own_bt ((own_tke hlC hlR).mpr ⟨hc324_52, Or.inr hc337_60, Or.inr hc350_64, Or.inl hc356_65⟩)
                      rw [eJ] at kJ
                      exact kJ
                    · refine GoW.on (fun t k => XS.icmpNo Y40.here hx rfl (hb hby at_356) rfl (flt hc356_65).1 k) ?_
                      show GoW p.tables e below s _ _ _ _ _ (T40.setTop (mkF m 359 #[.val (.int p1), .val (.int p2), .val (.int p3), .val (.int p4), .val (.int bT), .val (.int bC), .val (.int (Int32.ofNat lT)), .val (.int (Int32.ofNat lC)), .val (.int nT), .val (.int nC), .val (.int (Int32.ofNat lR)), .val (.int cp), .val (.int r11), .val (.int r13), .val (.int r15), .val (.int r17), .val (.int r19), .val (.int r21), .val (.int (Int32.ofNat lR)), .val (.int r23), .val (.int r25), .val (.int r27), .val (.ref xs29), .val (.ref xs34), .val (.ref xs40), .val (.int (own_b ((([r11, r13, r15] : List Int32).take lT) = ([69, 68] : List Int32)))), .unset] []))
                      refine GoW.on (fun t k => XS.iload Y40.here hx rfl (hb hby at_359) rfl (XS.iload Y40.here hx rfl (hb hby at_361) rfl k)) ?_
                      show GoW p.tables e below s _ _ _ _ _ (T40.setTop (mkF m 363 #[.val (.int p1), .val (.int p2), .val (.int p3), .val (.int p4), .val (.int bT), .val (.int bC), .val (.int (Int32.ofNat lT)), .val (.int (Int32.ofNat lC)), .val (.int nT), .val (.int nC), .val (.int (Int32.ofNat lR)), .val (.int cp), .val (.int r11), .val (.int r13), .val (.int r15), .val (.int r17), .val (.int r19), .val (.int r21), .val (.int (Int32.ofNat lR)), .val (.int r23), .val (.int r25), .val (.int r27), .val (.ref xs29), .val (.ref xs34), .val (.ref xs40), .val (.int (own_b ((([r11, r13, r15] : List Int32).take lT) = ([69, 68] : List Int32)))), .unset] [(.int r27), (.int r21)]))
                      by_cases hc363_66 : r21 = r27
                      · refine GoW.on (fun t k => XS.icmpNo Y40.here hx rfl (hb hby at_363) rfl (teq hc363_66).2 k) ?_
                        show GoW p.tables e below s _ _ _ _ _ (T40.setTop (mkF m 366 #[.val (.int p1), .val (.int p2), .val (.int p3), .val (.int p4), .val (.int bT), .val (.int bC), .val (.int (Int32.ofNat lT)), .val (.int (Int32.ofNat lC)), .val (.int nT), .val (.int nC), .val (.int (Int32.ofNat lR)), .val (.int cp), .val (.int r11), .val (.int r13), .val (.int r15), .val (.int r17), .val (.int r19), .val (.int r21), .val (.int (Int32.ofNat lR)), .val (.int r23), .val (.int r25), .val (.int r27), .val (.ref xs29), .val (.ref xs34), .val (.ref xs40), .val (.int (own_b ((([r11, r13, r15] : List Int32).take lT) = ([69, 68] : List Int32)))), .unset] []))
                        refine GoW.on (fun t k => XS.iconst Y40.here hx rfl (hb hby at_366) (XS.goto Y40.here hx rfl (pc0 := 367) (pc' := 371) rfl (hb hby at_367) (by decide) (by decide) k)) ?_
                        show GoW p.tables e below s _ _ _ _ _ (T40.setTop (mkF m 371 #[.val (.int p1), .val (.int p2), .val (.int p3), .val (.int p4), .val (.int bT), .val (.int bC), .val (.int (Int32.ofNat lT)), .val (.int (Int32.ofNat lC)), .val (.int nT), .val (.int nC), .val (.int (Int32.ofNat lR)), .val (.int cp), .val (.int r11), .val (.int r13), .val (.int r15), .val (.int r17), .val (.int r19), .val (.int r21), .val (.int (Int32.ofNat lR)), .val (.int r23), .val (.int r25), .val (.int r27), .val (.ref xs29), .val (.ref xs34), .val (.ref xs40), .val (.int (own_b ((([r11, r13, r15] : List Int32).take lT) = ([69, 68] : List Int32)))), .unset] [(.int (1 : Int32))]))
                        have eJ : own_b ((([r17, r19, r21] : List Int32).take lC) = (([r23, r25, r27] : List Int32).take lR)) = 1 := own_bt ((own_tke hlC hlR).mpr ⟨hc324_52, Or.inr hc337_60, Or.inr hc350_64, Or.inr hc363_66⟩)
                        rw [eJ] at kJ
                        exact kJ
                      · refine GoW.on (fun t k => XS.icmpYes Y40.here hx rfl (pc0 := 363) (pc' := 370) rfl (hb hby at_363) rfl (feq hc363_66).2 (by decide) (by decide) k) ?_
                        show GoW p.tables e below s _ _ _ _ _ (T40.setTop (mkF m 370 #[.val (.int p1), .val (.int p2), .val (.int p3), .val (.int p4), .val (.int bT), .val (.int bC), .val (.int (Int32.ofNat lT)), .val (.int (Int32.ofNat lC)), .val (.int nT), .val (.int nC), .val (.int (Int32.ofNat lR)), .val (.int cp), .val (.int r11), .val (.int r13), .val (.int r15), .val (.int r17), .val (.int r19), .val (.int r21), .val (.int (Int32.ofNat lR)), .val (.int r23), .val (.int r25), .val (.int r27), .val (.ref xs29), .val (.ref xs34), .val (.ref xs40), .val (.int (own_b ((([r11, r13, r15] : List Int32).take lT) = ([69, 68] : List Int32)))), .unset] []))
                        refine GoW.on (fun t k => XS.iconst Y40.here hx rfl (hb hby at_370) k) ?_
                        show GoW p.tables e below s _ _ _ _ _ (T40.setTop (mkF m 371 #[.val (.int p1), .val (.int p2), .val (.int p3), .val (.int p4), .val (.int bT), .val (.int bC), .val (.int (Int32.ofNat lT)), .val (.int (Int32.ofNat lC)), .val (.int nT), .val (.int nC), .val (.int (Int32.ofNat lR)), .val (.int cp), .val (.int r11), .val (.int r13), .val (.int r15), .val (.int r17), .val (.int r19), .val (.int r21), .val (.int (Int32.ofNat lR)), .val (.int r23), .val (.int r25), .val (.int r27), .val (.ref xs29), .val (.ref xs34), .val (.ref xs40), .val (.int (own_b ((([r11, r13, r15] : List Int32).take lT) = ([69, 68] : List Int32)))), .unset] [(.int (0 : Int32))]))
                        have eJ : own_b ((([r17, r19, r21] : List Int32).take lC) = (([r23, r25, r27] : List Int32).take lR)) = 0 := own_bf (fun q => ((own_tke hlC hlR).mp q).2.2.2.elim (fun z => hc356_65 z) (fun z => hc363_66 z))
                        rw [eJ] at kJ
                        exact kJ
                  · refine GoW.on (fun t k => XS.icmpYes Y40.here hx rfl (pc0 := 350) (pc' := 370) rfl (hb hby at_350) rfl (feq hc350_64).2 (by decide) (by decide) k) ?_
                    show GoW p.tables e below s _ _ _ _ _ (T40.setTop (mkF m 370 #[.val (.int p1), .val (.int p2), .val (.int p3), .val (.int p4), .val (.int bT), .val (.int bC), .val (.int (Int32.ofNat lT)), .val (.int (Int32.ofNat lC)), .val (.int nT), .val (.int nC), .val (.int (Int32.ofNat lR)), .val (.int cp), .val (.int r11), .val (.int r13), .val (.int r15), .val (.int r17), .val (.int r19), .val (.int r21), .val (.int (Int32.ofNat lR)), .val (.int r23), .val (.int r25), .val (.int r27), .val (.ref xs29), .val (.ref xs34), .val (.ref xs40), .val (.int (own_b ((([r11, r13, r15] : List Int32).take lT) = ([69, 68] : List Int32)))), .unset] []))
                    refine GoW.on (fun t k => XS.iconst Y40.here hx rfl (hb hby at_370) k) ?_
                    show GoW p.tables e below s _ _ _ _ _ (T40.setTop (mkF m 371 #[.val (.int p1), .val (.int p2), .val (.int p3), .val (.int p4), .val (.int bT), .val (.int bC), .val (.int (Int32.ofNat lT)), .val (.int (Int32.ofNat lC)), .val (.int nT), .val (.int nC), .val (.int (Int32.ofNat lR)), .val (.int cp), .val (.int r11), .val (.int r13), .val (.int r15), .val (.int r17), .val (.int r19), .val (.int r21), .val (.int (Int32.ofNat lR)), .val (.int r23), .val (.int r25), .val (.int r27), .val (.ref xs29), .val (.ref xs34), .val (.ref xs40), .val (.int (own_b ((([r11, r13, r15] : List Int32).take lT) = ([69, 68] : List Int32)))), .unset] [(.int (0 : Int32))]))
                    have eJ : own_b ((([r17, r19, r21] : List Int32).take lC) = (([r23, r25, r27] : List Int32).take lR)) = 0 := own_bf (fun q => ((own_tke hlC hlR).mp q).2.2.1.elim (fun z => hc343_61 z) (fun z => hc350_64 z))
                    rw [eJ] at kJ
                    exact kJ
              · refine GoW.on (fun t k => XS.icmpYes Y40.here hx rfl (pc0 := 337) (pc' := 370) rfl (hb hby at_337) rfl (feq hc337_60).2 (by decide) (by decide) k) ?_
                show GoW p.tables e below s _ _ _ _ _ (T40.setTop (mkF m 370 #[.val (.int p1), .val (.int p2), .val (.int p3), .val (.int p4), .val (.int bT), .val (.int bC), .val (.int (Int32.ofNat lT)), .val (.int (Int32.ofNat lC)), .val (.int nT), .val (.int nC), .val (.int (Int32.ofNat lR)), .val (.int cp), .val (.int r11), .val (.int r13), .val (.int r15), .val (.int r17), .val (.int r19), .val (.int r21), .val (.int (Int32.ofNat lR)), .val (.int r23), .val (.int r25), .val (.int r27), .val (.ref xs29), .val (.ref xs34), .val (.ref xs40), .val (.int (own_b ((([r11, r13, r15] : List Int32).take lT) = ([69, 68] : List Int32)))), .unset] []))
                refine GoW.on (fun t k => XS.iconst Y40.here hx rfl (hb hby at_370) k) ?_
                show GoW p.tables e below s _ _ _ _ _ (T40.setTop (mkF m 371 #[.val (.int p1), .val (.int p2), .val (.int p3), .val (.int p4), .val (.int bT), .val (.int bC), .val (.int (Int32.ofNat lT)), .val (.int (Int32.ofNat lC)), .val (.int nT), .val (.int nC), .val (.int (Int32.ofNat lR)), .val (.int cp), .val (.int r11), .val (.int r13), .val (.int r15), .val (.int r17), .val (.int r19), .val (.int r21), .val (.int (Int32.ofNat lR)), .val (.int r23), .val (.int r25), .val (.int r27), .val (.ref xs29), .val (.ref xs34), .val (.ref xs40), .val (.int (own_b ((([r11, r13, r15] : List Int32).take lT) = ([69, 68] : List Int32)))), .unset] [(.int (0 : Int32))]))
                have eJ : own_b ((([r17, r19, r21] : List Int32).take lC) = (([r23, r25, r27] : List Int32).take lR)) = 0 := own_bf (fun q => ((own_tke hlC hlR).mp q).2.1.elim (fun z => hc330_53 z) (fun z => hc337_60 z))
                rw [eJ] at kJ
                exact kJ
          · refine GoW.on (fun t k => XS.icmpYes Y40.here hx rfl (pc0 := 324) (pc' := 370) rfl (hb hby at_324) rfl (feq hc324_52).2 (by decide) (by decide) k) ?_
            show GoW p.tables e below s _ _ _ _ _ (T40.setTop (mkF m 370 #[.val (.int p1), .val (.int p2), .val (.int p3), .val (.int p4), .val (.int bT), .val (.int bC), .val (.int (Int32.ofNat lT)), .val (.int (Int32.ofNat lC)), .val (.int nT), .val (.int nC), .val (.int (Int32.ofNat lR)), .val (.int cp), .val (.int r11), .val (.int r13), .val (.int r15), .val (.int r17), .val (.int r19), .val (.int r21), .val (.int (Int32.ofNat lR)), .val (.int r23), .val (.int r25), .val (.int r27), .val (.ref xs29), .val (.ref xs34), .val (.ref xs40), .val (.int (own_b ((([r11, r13, r15] : List Int32).take lT) = ([69, 68] : List Int32)))), .unset] []))
            refine GoW.on (fun t k => XS.iconst Y40.here hx rfl (hb hby at_370) k) ?_
            show GoW p.tables e below s _ _ _ _ _ (T40.setTop (mkF m 371 #[.val (.int p1), .val (.int p2), .val (.int p3), .val (.int p4), .val (.int bT), .val (.int bC), .val (.int (Int32.ofNat lT)), .val (.int (Int32.ofNat lC)), .val (.int nT), .val (.int nC), .val (.int (Int32.ofNat lR)), .val (.int cp), .val (.int r11), .val (.int r13), .val (.int r15), .val (.int r17), .val (.int r19), .val (.int r21), .val (.int (Int32.ofNat lR)), .val (.int r23), .val (.int r25), .val (.int r27), .val (.ref xs29), .val (.ref xs34), .val (.ref xs40), .val (.int (own_b ((([r11, r13, r15] : List Int32).take lT) = ([69, 68] : List Int32)))), .unset] [(.int (0 : Int32))]))
            have eJ : own_b ((([r17, r19, r21] : List Int32).take lC) = (([r23, r25, r27] : List Int32).take lR)) = 0 := own_bf (fun q => hc324_52 ((own_tke hlC hlR).mp q).1)
            rw [eJ] at kJ
            exact kJ
        refine J51 ?_
        show GoW p.tables e below s _ _ _ _ _ (T40.setTop (mkF m 371 #[.val (.int p1), .val (.int p2), .val (.int p3), .val (.int p4), .val (.int bT), .val (.int bC), .val (.int (Int32.ofNat lT)), .val (.int (Int32.ofNat lC)), .val (.int nT), .val (.int nC), .val (.int (Int32.ofNat lR)), .val (.int cp), .val (.int r11), .val (.int r13), .val (.int r15), .val (.int r17), .val (.int r19), .val (.int r21), .val (.int (Int32.ofNat lR)), .val (.int r23), .val (.int r25), .val (.int r27), .val (.ref xs29), .val (.ref xs34), .val (.ref xs40), .val (.int (own_b ((([r11, r13, r15] : List Int32).take lT) = ([69, 68] : List Int32)))), .unset] [(.int (own_b ((([r17, r19, r21] : List Int32).take lC) = (([r23, r25, r27] : List Int32).take lR))))]))
        refine GoW.on (fun t k => XS.istore Y40.here hx rfl (hb hby at_371) rfl (l' := #[.val (.int p1), .val (.int p2), .val (.int p3), .val (.int p4), .val (.int bT), .val (.int bC), .val (.int (Int32.ofNat lT)), .val (.int (Int32.ofNat lC)), .val (.int nT), .val (.int nC), .val (.int (Int32.ofNat lR)), .val (.int cp), .val (.int r11), .val (.int r13), .val (.int r15), .val (.int r17), .val (.int r19), .val (.int r21), .val (.int (Int32.ofNat lR)), .val (.int r23), .val (.int r25), .val (.int r27), .val (.ref xs29), .val (.ref xs34), .val (.ref xs40), .val (.int (own_b ((([r11, r13, r15] : List Int32).take lT) = ([69, 68] : List Int32)))), .val (.int (own_b ((([r17, r19, r21] : List Int32).take lC) = (([r23, r25, r27] : List Int32).take lR))))]) rfl (XS.aload Y40.here hx rfl (hb hby at_373) rfl rfl (XS.aload Y40.here hx rfl (hb hby at_375) rfl rfl (XS.aload Y40.here hx rfl (hb hby at_377) rfl rfl k)))) ?_
        show GoW p.tables e below s _ _ _ _ _ (T40.setTop (mkF m 379 #[.val (.int p1), .val (.int p2), .val (.int p3), .val (.int p4), .val (.int bT), .val (.int bC), .val (.int (Int32.ofNat lT)), .val (.int (Int32.ofNat lC)), .val (.int nT), .val (.int nC), .val (.int (Int32.ofNat lR)), .val (.int cp), .val (.int r11), .val (.int r13), .val (.int r15), .val (.int r17), .val (.int r19), .val (.int r21), .val (.int (Int32.ofNat lR)), .val (.int r23), .val (.int r25), .val (.int r27), .val (.ref xs29), .val (.ref xs34), .val (.ref xs40), .val (.int (own_b ((([r11, r13, r15] : List Int32).take lT) = ([69, 68] : List Int32)))), .val (.int (own_b ((([r17, r19, r21] : List Int32).take lC) = (([r23, r25, r27] : List Int32).take lR))))] [(.ref xs40), (.ref xs34), (.ref xs29)]))
        obtain ⟨_, _, ⟨T67, L67, k67, n67⟩, -, X67, Sn67, Gr67, ⟨Lc67, hQ67, l67, y67, z67, C67⟩, st67⟩ := callSS Y40 hx (y := (⟨"com/example/rhythmwire/rhythmwire/idc/CommonSegments", "isReport", "(Ljava/lang/String;Ljava/lang/String;Ljava/lang/String;)Z"⟩ : MethodName)) hown40 (mvT hZ40 (hw _ (List.mem_of_getElem? (i := 29) rfl))) (mvT hZ40 (hw _ (List.mem_of_getElem? (i := 30) rfl))) (mvT hZ40 (hw _ (List.mem_of_getElem? (i := 31) rfl))) (mvT hZ40 (hw _ (List.mem_of_getElem? (i := 32) rfl))) (by decide) (backOfSH (W := 0) (rm6rr l Z a0 hw [] xs29 xs34 xs40 G1 (([r11, r13, r15] : List Int32).take lT) (([r17, r19, r21] : List Int32).take lC) (([r23, r25, r27] : List Int32).take lR) T40.heap n0 Zp45 Old0_42 O2 P5 P29_43 P34_44 P40_0) hZ40 (hw _ (List.mem_of_getElem? (i := 32) rfl)) (hw _ (List.mem_of_getElem? (i := 31) rfl)) (by decide) (by decide) hEL Ch41.1) (g := (mkF m 379 #[.val (.int p1), .val (.int p2), .val (.int p3), .val (.int p4), .val (.int bT), .val (.int bC), .val (.int (Int32.ofNat lT)), .val (.int (Int32.ofNat lC)), .val (.int nT), .val (.int nC), .val (.int (Int32.ofNat lR)), .val (.int cp), .val (.int r11), .val (.int r13), .val (.int r15), .val (.int r17), .val (.int r19), .val (.int r21), .val (.int (Int32.ofNat lR)), .val (.int r23), .val (.int r25), .val (.int r27), .val (.ref xs29), .val (.ref xs34), .val (.ref xs40), .val (.int (own_b ((([r11, r13, r15] : List Int32).take lT) = ([69, 68] : List Int32)))), .val (.int (own_b ((([r17, r19, r21] : List Int32).take lC) = (([r23, r25, r27] : List Int32).take lR))))] [(.ref xs40), (.ref xs34), (.ref xs29)])) rfl (by rw [hml]; rfl) (argsL := [(.ref xs29), (.ref xs34), (.ref xs40)]) (rest := []) (lenOf pd__40_Ljava_47_lang_47_String_59_Ljava_47_lang_47_String_59_Ljava_47_lang_47_String_59__41_Z rfl) rfl (by show 2 * 0 + _ ≤ _; exact Nat.le_of_eq rfl) (hb hby at_379) (fun _ _ => ⟨rfl, rfl, (by decide : ((((((((((((0 + 0) + 0) + 0) + 0) + 0) + 0) + 0) + 0) + 0) + 6) + 6) + 6) + 2 ≤ _), (by decide : ((((((((((((0 + 0) + 0) + 0) + 0) + 0) + 0) + 0) + 0) + 0) + 12) + 12) + 12) + 12 ≤ _)⟩)
        dsimp only [Pt.U, Pt.locs, Pt.cells, Pt.slots] at X67 l67 y67 z67 st67 hQ67 Sn67 Gr67 C67
        rw [l67, y67, z67] at X67
        obtain ⟨Y67, hS67, hZ67, hown67⟩ := rebS hS40 (Nat.le_refl _) X67 Sn67 Gr67 hZ40 hown40
        obtain ⟨rfl, Nq67, Kq67⟩ := hQ67
        have Ch68 := Ch41.trans C67
        have Old0_69 := Old0_42.keep Kq67 all0
        have P29_70 := P29_43.keep0 Kq67
        have P34_71 := P34_44.keep0 Kq67
        have P40_72 := P40_0.keep0 Kq67
        have Zp73 := Nat.le_trans Zp45 Kq67.1
        have Np74 := Fr.app Np46 Nq67
        refine GoW.via st67 ?_
        show GoW p.tables e below s _ _ _ _ _ (T67.setTop (mkF m 382 #[.val (.int p1), .val (.int p2), .val (.int p3), .val (.int p4), .val (.int bT), .val (.int bC), .val (.int (Int32.ofNat lT)), .val (.int (Int32.ofNat lC)), .val (.int nT), .val (.int nC), .val (.int (Int32.ofNat lR)), .val (.int cp), .val (.int r11), .val (.int r13), .val (.int r15), .val (.int r17), .val (.int r19), .val (.int r21), .val (.int (Int32.ofNat lR)), .val (.int r23), .val (.int r25), .val (.int r27), .val (.ref xs29), .val (.ref xs34), .val (.ref xs40), .val (.int (own_b ((([r11, r13, r15] : List Int32).take lT) = ([69, 68] : List Int32)))), .val (.int (own_b ((([r17, r19, r21] : List Int32).take lC) = (([r23, r25, r27] : List Int32).take lR))))] [(.int (own_b (([69, 68] : List Int32) = (([r11, r13, r15] : List Int32).take lT) ∧ (([r23, r25, r27] : List Int32).take lR) = (([r17, r19, r21] : List Int32).take lC))))]))
        refine GoW.on (fun t k => XS.iload Y67.here hx rfl (hb hby at_382) rfl k) ?_
        show GoW p.tables e below s _ _ _ _ _ (T67.setTop (mkF m 384 #[.val (.int p1), .val (.int p2), .val (.int p3), .val (.int p4), .val (.int bT), .val (.int bC), .val (.int (Int32.ofNat lT)), .val (.int (Int32.ofNat lC)), .val (.int nT), .val (.int nC), .val (.int (Int32.ofNat lR)), .val (.int cp), .val (.int r11), .val (.int r13), .val (.int r15), .val (.int r17), .val (.int r19), .val (.int r21), .val (.int (Int32.ofNat lR)), .val (.int r23), .val (.int r25), .val (.int r27), .val (.ref xs29), .val (.ref xs34), .val (.ref xs40), .val (.int (own_b ((([r11, r13, r15] : List Int32).take lT) = ([69, 68] : List Int32)))), .val (.int (own_b ((([r17, r19, r21] : List Int32).take lC) = (([r23, r25, r27] : List Int32).take lR))))] [(.int (own_b ((([r11, r13, r15] : List Int32).take lT) = ([69, 68] : List Int32)))), (.int (own_b (([69, 68] : List Int32) = (([r11, r13, r15] : List Int32).take lT) ∧ (([r23, r25, r27] : List Int32).take lR) = (([r17, r19, r21] : List Int32).take lC))))]))
        by_cases hc384_75 : (own_b ((([r11, r13, r15] : List Int32).take lT) = ([69, 68] : List Int32))) = (0 : Int32)
        · refine GoW.on (fun t k => XS.ifYes Y67.here hx rfl (pc0 := 384) (pc' := 396) rfl (hb hby at_384) rfl ((if0 _ _).trans (teq hc384_75).1) (by decide) (by decide) k) ?_
          show GoW p.tables e below s _ _ _ _ _ (T67.setTop (mkF m 396 #[.val (.int p1), .val (.int p2), .val (.int p3), .val (.int p4), .val (.int bT), .val (.int bC), .val (.int (Int32.ofNat lT)), .val (.int (Int32.ofNat lC)), .val (.int nT), .val (.int nC), .val (.int (Int32.ofNat lR)), .val (.int cp), .val (.int r11), .val (.int r13), .val (.int r15), .val (.int r17), .val (.int r19), .val (.int r21), .val (.int (Int32.ofNat lR)), .val (.int r23), .val (.int r25), .val (.int r27), .val (.ref xs29), .val (.ref xs34), .val (.ref xs40), .val (.int (own_b ((([r11, r13, r15] : List Int32).take lT) = ([69, 68] : List Int32)))), .val (.int (own_b ((([r17, r19, r21] : List Int32).take lC) = (([r23, r25, r27] : List Int32).take lR))))] [(.int (own_b (([69, 68] : List Int32) = (([r11, r13, r15] : List Int32).take lT) ∧ (([r23, r25, r27] : List Int32).take lR) = (([r17, r19, r21] : List Int32).take lC))))]))
          refine GoW.on (fun t k => XS.iconst Y67.here hx rfl (hb hby at_396) k) ?_
          show GoW p.tables e below s _ _ _ _ _ (T67.setTop (mkF m 397 #[.val (.int p1), .val (.int p2), .val (.int p3), .val (.int p4), .val (.int bT), .val (.int bC), .val (.int (Int32.ofNat lT)), .val (.int (Int32.ofNat lC)), .val (.int nT), .val (.int nC), .val (.int (Int32.ofNat lR)), .val (.int cp), .val (.int r11), .val (.int r13), .val (.int r15), .val (.int r17), .val (.int r19), .val (.int r21), .val (.int (Int32.ofNat lR)), .val (.int r23), .val (.int r25), .val (.int r27), .val (.ref xs29), .val (.ref xs34), .val (.ref xs40), .val (.int (own_b ((([r11, r13, r15] : List Int32).take lT) = ([69, 68] : List Int32)))), .val (.int (own_b ((([r17, r19, r21] : List Int32).take lC) = (([r23, r25, r27] : List Int32).take lR))))] [(.int (0 : Int32)), (.int (own_b (([69, 68] : List Int32) = (([r11, r13, r15] : List Int32).take lT) ∧ (([r23, r25, r27] : List Int32).take lR) = (([r17, r19, r21] : List Int32).take lC))))]))
          refine GoW.on (fun t k => XS.icmpNo Y67.here hx rfl (hb hby at_397) rfl (teq (own_bf fun q => own_b0 hc384_75 q.1.symm)).2 k) ?_
          show GoW p.tables e below s _ _ _ _ _ (T67.setTop (mkF m 400 #[.val (.int p1), .val (.int p2), .val (.int p3), .val (.int p4), .val (.int bT), .val (.int bC), .val (.int (Int32.ofNat lT)), .val (.int (Int32.ofNat lC)), .val (.int nT), .val (.int nC), .val (.int (Int32.ofNat lR)), .val (.int cp), .val (.int r11), .val (.int r13), .val (.int r15), .val (.int r17), .val (.int r19), .val (.int r21), .val (.int (Int32.ofNat lR)), .val (.int r23), .val (.int r25), .val (.int r27), .val (.ref xs29), .val (.ref xs34), .val (.ref xs40), .val (.int (own_b ((([r11, r13, r15] : List Int32).take lT) = ([69, 68] : List Int32)))), .val (.int (own_b ((([r17, r19, r21] : List Int32).take lC) = (([r23, r25, r27] : List Int32).take lR))))] []))
          refine GoW.on (fun t k => XS.iconst Y67.here hx rfl (hb hby at_400) (XS.goto Y67.here hx rfl (pc0 := 401) (pc' := 405) rfl (hb hby at_401) (by decide) (by decide) k)) ?_
          show GoW p.tables e below s _ _ _ _ _ (T67.setTop (mkF m 405 #[.val (.int p1), .val (.int p2), .val (.int p3), .val (.int p4), .val (.int bT), .val (.int bC), .val (.int (Int32.ofNat lT)), .val (.int (Int32.ofNat lC)), .val (.int nT), .val (.int nC), .val (.int (Int32.ofNat lR)), .val (.int cp), .val (.int r11), .val (.int r13), .val (.int r15), .val (.int r17), .val (.int r19), .val (.int r21), .val (.int (Int32.ofNat lR)), .val (.int r23), .val (.int r25), .val (.int r27), .val (.ref xs29), .val (.ref xs34), .val (.ref xs40), .val (.int (own_b ((([r11, r13, r15] : List Int32).take lT) = ([69, 68] : List Int32)))), .val (.int (own_b ((([r17, r19, r21] : List Int32).take lC) = (([r23, r25, r27] : List Int32).take lR))))] [(.int (1 : Int32))]))
          refine GoW.retN Y67 hx hlk hZ67 hS67 (Nat.le_refl _) hEL Ch68 (t := .boolean) Bd.returns (by simp) (hb hby at_405) (by decide) (by decide) rfl ?_
          exact ⟨rfl, Np74⟩
        · refine GoW.on (fun t k => XS.ifNo Y67.here hx rfl (hb hby at_384) rfl ((if0 _ _).trans (feq hc384_75).1) k) ?_
          show GoW p.tables e below s _ _ _ _ _ (T67.setTop (mkF m 387 #[.val (.int p1), .val (.int p2), .val (.int p3), .val (.int p4), .val (.int bT), .val (.int bC), .val (.int (Int32.ofNat lT)), .val (.int (Int32.ofNat lC)), .val (.int nT), .val (.int nC), .val (.int (Int32.ofNat lR)), .val (.int cp), .val (.int r11), .val (.int r13), .val (.int r15), .val (.int r17), .val (.int r19), .val (.int r21), .val (.int (Int32.ofNat lR)), .val (.int r23), .val (.int r25), .val (.int r27), .val (.ref xs29), .val (.ref xs34), .val (.ref xs40), .val (.int (own_b ((([r11, r13, r15] : List Int32).take lT) = ([69, 68] : List Int32)))), .val (.int (own_b ((([r17, r19, r21] : List Int32).take lC) = (([r23, r25, r27] : List Int32).take lR))))] [(.int (own_b (([69, 68] : List Int32) = (([r11, r13, r15] : List Int32).take lT) ∧ (([r23, r25, r27] : List Int32).take lR) = (([r17, r19, r21] : List Int32).take lC))))]))
          refine GoW.on (fun t k => XS.iload Y67.here hx rfl (hb hby at_387) rfl k) ?_
          show GoW p.tables e below s _ _ _ _ _ (T67.setTop (mkF m 389 #[.val (.int p1), .val (.int p2), .val (.int p3), .val (.int p4), .val (.int bT), .val (.int bC), .val (.int (Int32.ofNat lT)), .val (.int (Int32.ofNat lC)), .val (.int nT), .val (.int nC), .val (.int (Int32.ofNat lR)), .val (.int cp), .val (.int r11), .val (.int r13), .val (.int r15), .val (.int r17), .val (.int r19), .val (.int r21), .val (.int (Int32.ofNat lR)), .val (.int r23), .val (.int r25), .val (.int r27), .val (.ref xs29), .val (.ref xs34), .val (.ref xs40), .val (.int (own_b ((([r11, r13, r15] : List Int32).take lT) = ([69, 68] : List Int32)))), .val (.int (own_b ((([r17, r19, r21] : List Int32).take lC) = (([r23, r25, r27] : List Int32).take lR))))] [(.int (own_b ((([r17, r19, r21] : List Int32).take lC) = (([r23, r25, r27] : List Int32).take lR)))), (.int (own_b (([69, 68] : List Int32) = (([r11, r13, r15] : List Int32).take lT) ∧ (([r23, r25, r27] : List Int32).take lR) = (([r17, r19, r21] : List Int32).take lC))))]))
          by_cases hc389_76 : (own_b ((([r17, r19, r21] : List Int32).take lC) = (([r23, r25, r27] : List Int32).take lR))) = (0 : Int32)
          · refine GoW.on (fun t k => XS.ifYes Y67.here hx rfl (pc0 := 389) (pc' := 396) rfl (hb hby at_389) rfl ((if0 _ _).trans (teq hc389_76).1) (by decide) (by decide) k) ?_
            show GoW p.tables e below s _ _ _ _ _ (T67.setTop (mkF m 396 #[.val (.int p1), .val (.int p2), .val (.int p3), .val (.int p4), .val (.int bT), .val (.int bC), .val (.int (Int32.ofNat lT)), .val (.int (Int32.ofNat lC)), .val (.int nT), .val (.int nC), .val (.int (Int32.ofNat lR)), .val (.int cp), .val (.int r11), .val (.int r13), .val (.int r15), .val (.int r17), .val (.int r19), .val (.int r21), .val (.int (Int32.ofNat lR)), .val (.int r23), .val (.int r25), .val (.int r27), .val (.ref xs29), .val (.ref xs34), .val (.ref xs40), .val (.int (own_b ((([r11, r13, r15] : List Int32).take lT) = ([69, 68] : List Int32)))), .val (.int (own_b ((([r17, r19, r21] : List Int32).take lC) = (([r23, r25, r27] : List Int32).take lR))))] [(.int (own_b (([69, 68] : List Int32) = (([r11, r13, r15] : List Int32).take lT) ∧ (([r23, r25, r27] : List Int32).take lR) = (([r17, r19, r21] : List Int32).take lC))))]))
            refine GoW.on (fun t k => XS.iconst Y67.here hx rfl (hb hby at_396) k) ?_
            show GoW p.tables e below s _ _ _ _ _ (T67.setTop (mkF m 397 #[.val (.int p1), .val (.int p2), .val (.int p3), .val (.int p4), .val (.int bT), .val (.int bC), .val (.int (Int32.ofNat lT)), .val (.int (Int32.ofNat lC)), .val (.int nT), .val (.int nC), .val (.int (Int32.ofNat lR)), .val (.int cp), .val (.int r11), .val (.int r13), .val (.int r15), .val (.int r17), .val (.int r19), .val (.int r21), .val (.int (Int32.ofNat lR)), .val (.int r23), .val (.int r25), .val (.int r27), .val (.ref xs29), .val (.ref xs34), .val (.ref xs40), .val (.int (own_b ((([r11, r13, r15] : List Int32).take lT) = ([69, 68] : List Int32)))), .val (.int (own_b ((([r17, r19, r21] : List Int32).take lC) = (([r23, r25, r27] : List Int32).take lR))))] [(.int (0 : Int32)), (.int (own_b (([69, 68] : List Int32) = (([r11, r13, r15] : List Int32).take lT) ∧ (([r23, r25, r27] : List Int32).take lR) = (([r17, r19, r21] : List Int32).take lC))))]))
            refine GoW.on (fun t k => XS.icmpNo Y67.here hx rfl (hb hby at_397) rfl (teq (own_bf fun q => own_b0 hc389_76 q.2.symm)).2 k) ?_
            show GoW p.tables e below s _ _ _ _ _ (T67.setTop (mkF m 400 #[.val (.int p1), .val (.int p2), .val (.int p3), .val (.int p4), .val (.int bT), .val (.int bC), .val (.int (Int32.ofNat lT)), .val (.int (Int32.ofNat lC)), .val (.int nT), .val (.int nC), .val (.int (Int32.ofNat lR)), .val (.int cp), .val (.int r11), .val (.int r13), .val (.int r15), .val (.int r17), .val (.int r19), .val (.int r21), .val (.int (Int32.ofNat lR)), .val (.int r23), .val (.int r25), .val (.int r27), .val (.ref xs29), .val (.ref xs34), .val (.ref xs40), .val (.int (own_b ((([r11, r13, r15] : List Int32).take lT) = ([69, 68] : List Int32)))), .val (.int (own_b ((([r17, r19, r21] : List Int32).take lC) = (([r23, r25, r27] : List Int32).take lR))))] []))
            refine GoW.on (fun t k => XS.iconst Y67.here hx rfl (hb hby at_400) (XS.goto Y67.here hx rfl (pc0 := 401) (pc' := 405) rfl (hb hby at_401) (by decide) (by decide) k)) ?_
            show GoW p.tables e below s _ _ _ _ _ (T67.setTop (mkF m 405 #[.val (.int p1), .val (.int p2), .val (.int p3), .val (.int p4), .val (.int bT), .val (.int bC), .val (.int (Int32.ofNat lT)), .val (.int (Int32.ofNat lC)), .val (.int nT), .val (.int nC), .val (.int (Int32.ofNat lR)), .val (.int cp), .val (.int r11), .val (.int r13), .val (.int r15), .val (.int r17), .val (.int r19), .val (.int r21), .val (.int (Int32.ofNat lR)), .val (.int r23), .val (.int r25), .val (.int r27), .val (.ref xs29), .val (.ref xs34), .val (.ref xs40), .val (.int (own_b ((([r11, r13, r15] : List Int32).take lT) = ([69, 68] : List Int32)))), .val (.int (own_b ((([r17, r19, r21] : List Int32).take lC) = (([r23, r25, r27] : List Int32).take lR))))] [(.int (1 : Int32))]))
            refine GoW.retN Y67 hx hlk hZ67 hS67 (Nat.le_refl _) hEL Ch68 (t := .boolean) Bd.returns (by simp) (hb hby at_405) (by decide) (by decide) rfl ?_
            exact ⟨rfl, Np74⟩
          · refine GoW.on (fun t k => XS.ifNo Y67.here hx rfl (hb hby at_389) rfl ((if0 _ _).trans (feq hc389_76).1) k) ?_
            show GoW p.tables e below s _ _ _ _ _ (T67.setTop (mkF m 392 #[.val (.int p1), .val (.int p2), .val (.int p3), .val (.int p4), .val (.int bT), .val (.int bC), .val (.int (Int32.ofNat lT)), .val (.int (Int32.ofNat lC)), .val (.int nT), .val (.int nC), .val (.int (Int32.ofNat lR)), .val (.int cp), .val (.int r11), .val (.int r13), .val (.int r15), .val (.int r17), .val (.int r19), .val (.int r21), .val (.int (Int32.ofNat lR)), .val (.int r23), .val (.int r25), .val (.int r27), .val (.ref xs29), .val (.ref xs34), .val (.ref xs40), .val (.int (own_b ((([r11, r13, r15] : List Int32).take lT) = ([69, 68] : List Int32)))), .val (.int (own_b ((([r17, r19, r21] : List Int32).take lC) = (([r23, r25, r27] : List Int32).take lR))))] [(.int (own_b (([69, 68] : List Int32) = (([r11, r13, r15] : List Int32).take lT) ∧ (([r23, r25, r27] : List Int32).take lR) = (([r17, r19, r21] : List Int32).take lC))))]))
            refine GoW.on (fun t k => XS.iconst Y67.here hx rfl (hb hby at_392) (XS.goto Y67.here hx rfl (pc0 := 393) (pc' := 397) rfl (hb hby at_393) (by decide) (by decide) k)) ?_
            show GoW p.tables e below s _ _ _ _ _ (T67.setTop (mkF m 397 #[.val (.int p1), .val (.int p2), .val (.int p3), .val (.int p4), .val (.int bT), .val (.int bC), .val (.int (Int32.ofNat lT)), .val (.int (Int32.ofNat lC)), .val (.int nT), .val (.int nC), .val (.int (Int32.ofNat lR)), .val (.int cp), .val (.int r11), .val (.int r13), .val (.int r15), .val (.int r17), .val (.int r19), .val (.int r21), .val (.int (Int32.ofNat lR)), .val (.int r23), .val (.int r25), .val (.int r27), .val (.ref xs29), .val (.ref xs34), .val (.ref xs40), .val (.int (own_b ((([r11, r13, r15] : List Int32).take lT) = ([69, 68] : List Int32)))), .val (.int (own_b ((([r17, r19, r21] : List Int32).take lC) = (([r23, r25, r27] : List Int32).take lR))))] [(.int (1 : Int32)), (.int (own_b (([69, 68] : List Int32) = (([r11, r13, r15] : List Int32).take lT) ∧ (([r23, r25, r27] : List Int32).take lR) = (([r17, r19, r21] : List Int32).take lC))))]))
            refine GoW.on (fun t k => XS.icmpNo Y67.here hx rfl (hb hby at_397) rfl (teq (own_bt ⟨(own_b1 hc384_75).symm, (own_b1 hc389_76).symm⟩)).2 k) ?_
            show GoW p.tables e below s _ _ _ _ _ (T67.setTop (mkF m 400 #[.val (.int p1), .val (.int p2), .val (.int p3), .val (.int p4), .val (.int bT), .val (.int bC), .val (.int (Int32.ofNat lT)), .val (.int (Int32.ofNat lC)), .val (.int nT), .val (.int nC), .val (.int (Int32.ofNat lR)), .val (.int cp), .val (.int r11), .val (.int r13), .val (.int r15), .val (.int r17), .val (.int r19), .val (.int r21), .val (.int (Int32.ofNat lR)), .val (.int r23), .val (.int r25), .val (.int r27), .val (.ref xs29), .val (.ref xs34), .val (.ref xs40), .val (.int (own_b ((([r11, r13, r15] : List Int32).take lT) = ([69, 68] : List Int32)))), .val (.int (own_b ((([r17, r19, r21] : List Int32).take lC) = (([r23, r25, r27] : List Int32).take lR))))] []))
            refine GoW.on (fun t k => XS.iconst Y67.here hx rfl (hb hby at_400) (XS.goto Y67.here hx rfl (pc0 := 401) (pc' := 405) rfl (hb hby at_401) (by decide) (by decide) k)) ?_
            show GoW p.tables e below s _ _ _ _ _ (T67.setTop (mkF m 405 #[.val (.int p1), .val (.int p2), .val (.int p3), .val (.int p4), .val (.int bT), .val (.int bC), .val (.int (Int32.ofNat lT)), .val (.int (Int32.ofNat lC)), .val (.int nT), .val (.int nC), .val (.int (Int32.ofNat lR)), .val (.int cp), .val (.int r11), .val (.int r13), .val (.int r15), .val (.int r17), .val (.int r19), .val (.int r21), .val (.int (Int32.ofNat lR)), .val (.int r23), .val (.int r25), .val (.int r27), .val (.ref xs29), .val (.ref xs34), .val (.ref xs40), .val (.int (own_b ((([r11, r13, r15] : List Int32).take lT) = ([69, 68] : List Int32)))), .val (.int (own_b ((([r17, r19, r21] : List Int32).take lC) = (([r23, r25, r27] : List Int32).take lR))))] [(.int (1 : Int32))]))
            refine GoW.retN Y67 hx hlk hZ67 hS67 (Nat.le_refl _) hEL Ch68 (t := .boolean) Bd.returns (by simp) (hb hby at_405) (by decide) (by decide) rfl ?_
            exact ⟨rfl, Np74⟩
      · refine GoW.on (fun t k => XS.ifNo Y29.here hx rfl (hb hby at_250) rfl ((if0 _ _).trans (feq hnC).1) k) ?_
        show GoW p.tables e below s _ _ _ _ _ (T29.setTop (mkF m 253 #[.val (.int p1), .val (.int p2), .val (.int p3), .val (.int p4), .val (.int bT), .val (.int bC), .val (.int (Int32.ofNat lT)), .val (.int (Int32.ofNat lC)), .val (.int nT), .val (.int nC), .val (.int (Int32.ofNat lR)), .val (.int cp), .val (.int r11), .val (.int r13), .val (.int r15), .val (.int r17), .val (.int r19), .val (.int r21), .val (.int (Int32.ofNat lR)), .val (.int r23), .val (.int r25), .val (.int r27), .val (.ref xs29), .unset, .unset, .unset, .unset] []))
        refine GoW.on (fun t k => XS.aconstNull Y29.here hx rfl (hb hby at_253) (XS.goto Y29.here hx rfl (pc0 := 254) (pc' := 268) rfl (hb hby at_254) (by decide) (by decide) (XS.astore Y29.here hx rfl (hb hby at_268) rfl rfl (l' := #[.val (.int p1), .val (.int p2), .val (.int p3), .val (.int p4), .val (.int bT), .val (.int bC), .val (.int (Int32.ofNat lT)), .val (.int (Int32.ofNat lC)), .val (.int nT), .val (.int nC), .val (.int (Int32.ofNat lR)), .val (.int cp), .val (.int r11), .val (.int r13), .val (.int r15), .val (.int r17), .val (.int r19), .val (.int r21), .val (.int (Int32.ofNat lR)), .val (.int r23), .val (.int r25), .val (.int r27), .val (.ref xs29), .val .null, .unset, .unset, .unset]) rfl (XS.iload Y29.here hx rfl (hb hby at_270) rfl (XS.iload Y29.here hx rfl (hb hby at_272) rfl (XS.iload Y29.here hx rfl (hb hby at_274) rfl (XS.iload Y29.here hx rfl (hb hby at_276) rfl k))))))) ?_
        show GoW p.tables e below s _ _ _ _ _ (T29.setTop (mkF m 278 #[.val (.int p1), .val (.int p2), .val (.int p3), .val (.int p4), .val (.int bT), .val (.int bC), .val (.int (Int32.ofNat lT)), .val (.int (Int32.ofNat lC)), .val (.int nT), .val (.int nC), .val (.int (Int32.ofNat lR)), .val (.int cp), .val (.int r11), .val (.int r13), .val (.int r15), .val (.int r17), .val (.int r19), .val (.int r21), .val (.int (Int32.ofNat lR)), .val (.int r23), .val (.int r25), .val (.int r27), .val (.ref xs29), .val .null, .unset, .unset, .unset] [(.int r27), (.int r25), (.int r23), (.int (Int32.ofNat lR))]))
        obtain ⟨_, _, ⟨T77, L77, k77, n77⟩, -, X77, Sn77, Gr77, ⟨Lc77, hQ77, l77, y77, z77, C77⟩, st77⟩ := callSS Y29 hx (y := (⟨"com/example/rhythmwire/rhythmwire/idc/CommonSegmentsIsReportPinLaw", "str", "(ICCC)Ljava/lang/String;"⟩ : MethodName)) hown29 (mvT hZ29 (hw _ (List.mem_of_getElem? (i := 4) rfl))) (mvT hZ29 (hw _ (List.mem_of_getElem? (i := 5) rfl))) (mvT hZ29 (hw _ (List.mem_of_getElem? (i := 2) rfl))) (mvT hZ29 (hw _ (List.mem_of_getElem? (i := 6) rfl))) (by decide) (backOfSH (W := 0) (rm2 l Z a0 hw [] (Int32.ofNat lR) r23 r25 r27 G1 lR T29.heap n0 Zp32 Old0_31 O2 P5 rfl hlR P23_0 P25_0 P27_0) hZ29 (hw _ (List.mem_of_getElem? (i := 6) rfl)) (hw _ (List.mem_of_getElem? (i := 2) rfl)) (by decide) (by decide) hEL Ch30.1) (g := (mkF m 278 #[.val (.int p1), .val (.int p2), .val (.int p3), .val (.int p4), .val (.int bT), .val (.int bC), .val (.int (Int32.ofNat lT)), .val (.int (Int32.ofNat lC)), .val (.int nT), .val (.int nC), .val (.int (Int32.ofNat lR)), .val (.int cp), .val (.int r11), .val (.int r13), .val (.int r15), .val (.int r17), .val (.int r19), .val (.int r21), .val (.int (Int32.ofNat lR)), .val (.int r23), .val (.int r25), .val (.int r27), .val (.ref xs29), .val .null, .unset, .unset, .unset] [(.int r27), (.int r25), (.int r23), (.int (Int32.ofNat lR))])) rfl (by rw [hml]; rfl) (argsL := [(.int (Int32.ofNat lR)), (.int r23), (.int r25), (.int r27)]) (rest := []) (lenOf pd__40_ICCC_41_Ljava_47_lang_47_String_59_ rfl) rfl (by show 2 * 0 + _ ≤ _; exact Nat.le_of_eq rfl) (hb hby at_278) (fun _ _ => ⟨rfl, rfl, (by decide : ((((((((((0 + 0) + 0) + 0) + 0) + 0) + 0) + 0) + 0) + 0) + 6) + 6 ≤ _), (by decide : ((((((((((0 + 0) + 0) + 0) + 0) + 0) + 0) + 0) + 0) + 0) + 12) + 12 ≤ _)⟩)
        dsimp only [Pt.U, Pt.locs, Pt.cells, Pt.slots] at X77 l77 y77 z77 st77 hQ77 Sn77 Gr77 C77
        rw [l77, y77, z77] at X77
        obtain ⟨Y77, hS77, hZ77, hown77⟩ := rebS hS29 (Nat.le_refl _) X77 Sn77 Gr77 hZ29 hown29
        obtain ⟨xs77, rfl, Nq77, Kq77, P77_0⟩ := hQ77
        have Ch78 := Ch30.trans C77
        have Old0_79 := Old0_31.keep Kq77 all0
        have P29_80 := P29_0.keep0 Kq77
        have Zp81 := Nat.le_trans Zp32 Kq77.1
        have Np82 := Fr.app Np33 Nq77
        refine GoW.via st77 ?_
        show GoW p.tables e below s _ _ _ _ _ (T77.setTop (mkF m 281 #[.val (.int p1), .val (.int p2), .val (.int p3), .val (.int p4), .val (.int bT), .val (.int bC), .val (.int (Int32.ofNat lT)), .val (.int (Int32.ofNat lC)), .val (.int nT), .val (.int nC), .val (.int (Int32.ofNat lR)), .val (.int cp), .val (.int r11), .val (.int r13), .val (.int r15), .val (.int r17), .val (.int r19), .val (.int r21), .val (.int (Int32.ofNat lR)), .val (.int r23), .val (.int r25), .val (.int r27), .val (.ref xs29), .val .null, .unset, .unset, .unset] [(.ref xs77)]))
        refine GoW.on (fun t k => XS.astore Y77.here hx rfl (hb hby at_281) rfl rfl (l' := #[.val (.int p1), .val (.int p2), .val (.int p3), .val (.int p4), .val (.int bT), .val (.int bC), .val (.int (Int32.ofNat lT)), .val (.int (Int32.ofNat lC)), .val (.int nT), .val (.int nC), .val (.int (Int32.ofNat lR)), .val (.int cp), .val (.int r11), .val (.int r13), .val (.int r15), .val (.int r17), .val (.int r19), .val (.int r21), .val (.int (Int32.ofNat lR)), .val (.int r23), .val (.int r25), .val (.int r27), .val (.ref xs29), .val .null, .val (.ref xs77), .unset, .unset]) rfl (XS.iload Y77.here hx rfl (hb hby at_283) rfl k)) ?_
        show GoW p.tables e below s _ _ _ _ _ (T77.setTop (mkF m 285 #[.val (.int p1), .val (.int p2), .val (.int p3), .val (.int p4), .val (.int bT), .val (.int bC), .val (.int (Int32.ofNat lT)), .val (.int (Int32.ofNat lC)), .val (.int nT), .val (.int nC), .val (.int (Int32.ofNat lR)), .val (.int cp), .val (.int r11), .val (.int r13), .val (.int r15), .val (.int r17), .val (.int r19), .val (.int r21), .val (.int (Int32.ofNat lR)), .val (.int r23), .val (.int r25), .val (.int r27), .val (.ref xs29), .val .null, .val (.ref xs77), .unset, .unset] [(.int nT)]))
        refine GoW.on (fun t k => XS.ifNo Y77.here hx rfl (hb hby at_285) rfl ((if0 _ _).trans (teq hnT).2) k) ?_
        show GoW p.tables e below s _ _ _ _ _ (T77.setTop (mkF m 288 #[.val (.int p1), .val (.int p2), .val (.int p3), .val (.int p4), .val (.int bT), .val (.int bC), .val (.int (Int32.ofNat lT)), .val (.int (Int32.ofNat lC)), .val (.int nT), .val (.int nC), .val (.int (Int32.ofNat lR)), .val (.int cp), .val (.int r11), .val (.int r13), .val (.int r15), .val (.int r17), .val (.int r19), .val (.int r21), .val (.int (Int32.ofNat lR)), .val (.int r23), .val (.int r25), .val (.int r27), .val (.ref xs29), .val .null, .val (.ref xs77), .unset, .unset] []))
        refine GoW.on (fun t k => XS.iload Y77.here hx rfl (hb hby at_288) rfl (XS.iconst Y77.here hx rfl (hb hby at_290) k)) ?_
        show GoW p.tables e below s _ _ _ _ _ (T77.setTop (mkF m 291 #[.val (.int p1), .val (.int p2), .val (.int p3), .val (.int p4), .val (.int bT), .val (.int bC), .val (.int (Int32.ofNat lT)), .val (.int (Int32.ofNat lC)), .val (.int nT), .val (.int nC), .val (.int (Int32.ofNat lR)), .val (.int cp), .val (.int r11), .val (.int r13), .val (.int r15), .val (.int r17), .val (.int r19), .val (.int r21), .val (.int (Int32.ofNat lR)), .val (.int r23), .val (.int r25), .val (.int r27), .val (.ref xs29), .val .null, .val (.ref xs77), .unset, .unset] [(.int (2 : Int32)), (.int (Int32.ofNat lT))]))
        have J83 : GoW p.tables e below s (Q0 Z p1 p2 p3 p4 G1 h0 n0) Z own_EL room_1.cells room_1.slots (T77.setTop (mkF m 313 #[.val (.int p1), .val (.int p2), .val (.int p3), .val (.int p4), .val (.int bT), .val (.int bC), .val (.int (Int32.ofNat lT)), .val (.int (Int32.ofNat lC)), .val (.int nT), .val (.int nC), .val (.int (Int32.ofNat lR)), .val (.int cp), .val (.int r11), .val (.int r13), .val (.int r15), .val (.int r17), .val (.int r19), .val (.int r21), .val (.int (Int32.ofNat lR)), .val (.int r23), .val (.int r25), .val (.int r27), .val (.ref xs29), .val .null, .val (.ref xs77), .unset, .unset] [(.int (own_b ((([r11, r13, r15] : List Int32).take lT) = ([69, 68] : List Int32))))])) → GoW p.tables e below s (Q0 Z p1 p2 p3 p4 G1 h0 n0) Z own_EL room_1.cells room_1.slots (T77.setTop (mkF m 291 #[.val (.int p1), .val (.int p2), .val (.int p3), .val (.int p4), .val (.int bT), .val (.int bC), .val (.int (Int32.ofNat lT)), .val (.int (Int32.ofNat lC)), .val (.int nT), .val (.int nC), .val (.int (Int32.ofNat lR)), .val (.int cp), .val (.int r11), .val (.int r13), .val (.int r15), .val (.int r17), .val (.int r19), .val (.int r21), .val (.int (Int32.ofNat lR)), .val (.int r23), .val (.int r25), .val (.int r27), .val (.ref xs29), .val .null, .val (.ref xs77), .unset, .unset] [(.int (2 : Int32)), (.int (Int32.ofNat lT))])) := by
          intro kJ
          by_cases hc291_84 : (Int32.ofNat lT) = (2 : Int32)
          · refine GoW.on (fun t k => XS.icmpNo Y77.here hx rfl (hb hby at_291) rfl (teq hc291_84).2 k) ?_
            show GoW p.tables e below s _ _ _ _ _ (T77.setTop (mkF m 294 #[.val (.int p1), .val (.int p2), .val (.int p3), .val (.int p4), .val (.int bT), .val (.int bC), .val (.int (Int32.ofNat lT)), .val (.int (Int32.ofNat lC)), .val (.int nT), .val (.int nC), .val (.int (Int32.ofNat lR)), .val (.int cp), .val (.int r11), .val (.int r13), .val (.int r15), .val (.int r17), .val (.int r19), .val (.int r21), .val (.int (Int32.ofNat lR)), .val (.int r23), .val (.int r25), .val (.int r27), .val (.ref xs29), .val .null, .val (.ref xs77), .unset, .unset] []))
            refine GoW.on (fun t k => XS.iload Y77.here hx rfl (hb hby at_294) rfl (XS.bipush Y77.here hx rfl (hb hby at_296) k)) ?_
            show GoW p.tables e below s _ _ _ _ _ (T77.setTop (mkF m 298 #[.val (.int p1), .val (.int p2), .val (.int p3), .val (.int p4), .val (.int bT), .val (.int bC), .val (.int (Int32.ofNat lT)), .val (.int (Int32.ofNat lC)), .val (.int nT), .val (.int nC), .val (.int (Int32.ofNat lR)), .val (.int cp), .val (.int r11), .val (.int r13), .val (.int r15), .val (.int r17), .val (.int r19), .val (.int r21), .val (.int (Int32.ofNat lR)), .val (.int r23), .val (.int r25), .val (.int r27), .val (.ref xs29), .val .null, .val (.ref xs77), .unset, .unset] [(.int (69 : Int32)), (.int r11)]))
            by_cases hc298_85 : r11 = (69 : Int32)
            · refine GoW.on (fun t k => XS.icmpNo Y77.here hx rfl (hb hby at_298) rfl (teq hc298_85).2 k) ?_
              show GoW p.tables e below s _ _ _ _ _ (T77.setTop (mkF m 301 #[.val (.int p1), .val (.int p2), .val (.int p3), .val (.int p4), .val (.int bT), .val (.int bC), .val (.int (Int32.ofNat lT)), .val (.int (Int32.ofNat lC)), .val (.int nT), .val (.int nC), .val (.int (Int32.ofNat lR)), .val (.int cp), .val (.int r11), .val (.int r13), .val (.int r15), .val (.int r17), .val (.int r19), .val (.int r21), .val (.int (Int32.ofNat lR)), .val (.int r23), .val (.int r25), .val (.int r27), .val (.ref xs29), .val .null, .val (.ref xs77), .unset, .unset] []))
              refine GoW.on (fun t k => XS.iload Y77.here hx rfl (hb hby at_301) rfl (XS.bipush Y77.here hx rfl (hb hby at_303) k)) ?_
              show GoW p.tables e below s _ _ _ _ _ (T77.setTop (mkF m 305 #[.val (.int p1), .val (.int p2), .val (.int p3), .val (.int p4), .val (.int bT), .val (.int bC), .val (.int (Int32.ofNat lT)), .val (.int (Int32.ofNat lC)), .val (.int nT), .val (.int nC), .val (.int (Int32.ofNat lR)), .val (.int cp), .val (.int r11), .val (.int r13), .val (.int r15), .val (.int r17), .val (.int r19), .val (.int r21), .val (.int (Int32.ofNat lR)), .val (.int r23), .val (.int r25), .val (.int r27), .val (.ref xs29), .val .null, .val (.ref xs77), .unset, .unset] [(.int (68 : Int32)), (.int r13)]))
              by_cases hc305_86 : r13 = (68 : Int32)
              · refine GoW.on (fun t k => XS.icmpNo Y77.here hx rfl (hb hby at_305) rfl (teq hc305_86).2 k) ?_
                show GoW p.tables e below s _ _ _ _ _ (T77.setTop (mkF m 308 #[.val (.int p1), .val (.int p2), .val (.int p3), .val (.int p4), .val (.int bT), .val (.int bC), .val (.int (Int32.ofNat lT)), .val (.int (Int32.ofNat lC)), .val (.int nT), .val (.int nC), .val (.int (Int32.ofNat lR)), .val (.int cp), .val (.int r11), .val (.int r13), .val (.int r15), .val (.int r17), .val (.int r19), .val (.int r21), .val (.int (Int32.ofNat lR)), .val (.int r23), .val (.int r25), .val (.int r27), .val (.ref xs29), .val .null, .val (.ref xs77), .unset, .unset] []))
                refine GoW.on (fun t k => XS.iconst Y77.here hx rfl (hb hby at_308) (XS.goto Y77.here hx rfl (pc0 := 309) (pc' := 313) rfl (hb hby at_309) (by decide) (by decide) k)) ?_
                show GoW p.tables e below s _ _ _ _ _ (T77.setTop (mkF m 313 #[.val (.int p1), .val (.int p2), .val (.int p3), .val (.int p4), .val (.int bT), .val (.int bC), .val (.int (Int32.ofNat lT)), .val (.int (Int32.ofNat lC)), .val (.int nT), .val (.int nC), .val (.int (Int32.ofNat lR)), .val (.int cp), .val (.int r11), .val (.int r13), .val (.int r15), .val (.int r17), .val (.int r19), .val (.int r21), .val (.int (Int32.ofNat lR)), .val (.int r23), .val (.int r25), .val (.int r27), .val (.ref xs29), .val .null, .val (.ref xs77), .unset, .unset] [(.int (1 : Int32))]))
                have eJ : own_b ((([r11, r13, r15] : List Int32).take lT) = ([69, 68] : List Int32)) = 1 := own_bt ((own_tk hlT).mpr ⟨(own_num hlT (by decide : 2 ≤ 3)).mp hc291_84, hc298_85, hc305_86⟩)
                rw [eJ] at kJ
                exact kJ
              · refine GoW.on (fun t k => XS.icmpYes Y77.here hx rfl (pc0 := 305) (pc' := 312) rfl (hb hby at_305) rfl (feq hc305_86).2 (by decide) (by decide) k) ?_
                show GoW p.tables e below s _ _ _ _ _ (T77.setTop (mkF m 312 #[.val (.int p1), .val (.int p2), .val (.int p3), .val (.int p4), .val (.int bT), .val (.int bC), .val (.int (Int32.ofNat lT)), .val (.int (Int32.ofNat lC)), .val (.int nT), .val (.int nC), .val (.int (Int32.ofNat lR)), .val (.int cp), .val (.int r11), .val (.int r13), .val (.int r15), .val (.int r17), .val (.int r19), .val (.int r21), .val (.int (Int32.ofNat lR)), .val (.int r23), .val (.int r25), .val (.int r27), .val (.ref xs29), .val .null, .val (.ref xs77), .unset, .unset] []))
                refine GoW.on (fun t k => XS.iconst Y77.here hx rfl (hb hby at_312) k) ?_
                show GoW p.tables e below s _ _ _ _ _ (T77.setTop (mkF m 313 #[.val (.int p1), .val (.int p2), .val (.int p3), .val (.int p4), .val (.int bT), .val (.int bC), .val (.int (Int32.ofNat lT)), .val (.int (Int32.ofNat lC)), .val (.int nT), .val (.int nC), .val (.int (Int32.ofNat lR)), .val (.int cp), .val (.int r11), .val (.int r13), .val (.int r15), .val (.int r17), .val (.int r19), .val (.int r21), .val (.int (Int32.ofNat lR)), .val (.int r23), .val (.int r25), .val (.int r27), .val (.ref xs29), .val .null, .val (.ref xs77), .unset, .unset] [(.int (0 : Int32))]))
                have eJ : own_b ((([r11, r13, r15] : List Int32).take lT) = ([69, 68] : List Int32)) = 0 := own_bf (fun q => hc305_86 ((own_tk hlT).mp q).2.2)
                rw [eJ] at kJ
                exact kJ
            · refine GoW.on (fun t k => XS.icmpYes Y77.here hx rfl (pc0 := 298) (pc' := 312) rfl (hb hby at_298) rfl (feq hc298_85).2 (by decide) (by decide) k) ?_
              show GoW p.tables e below s _ _ _ _ _ (T77.setTop (mkF m 312 #[.val (.int p1), .val (.int p2), .val (.int p3), .val (.int p4), .val (.int bT), .val (.int bC), .val (.int (Int32.ofNat lT)), .val (.int (Int32.ofNat lC)), .val (.int nT), .val (.int nC), .val (.int (Int32.ofNat lR)), .val (.int cp), .val (.int r11), .val (.int r13), .val (.int r15), .val (.int r17), .val (.int r19), .val (.int r21), .val (.int (Int32.ofNat lR)), .val (.int r23), .val (.int r25), .val (.int r27), .val (.ref xs29), .val .null, .val (.ref xs77), .unset, .unset] []))
              refine GoW.on (fun t k => XS.iconst Y77.here hx rfl (hb hby at_312) k) ?_
              show GoW p.tables e below s _ _ _ _ _ (T77.setTop (mkF m 313 #[.val (.int p1), .val (.int p2), .val (.int p3), .val (.int p4), .val (.int bT), .val (.int bC), .val (.int (Int32.ofNat lT)), .val (.int (Int32.ofNat lC)), .val (.int nT), .val (.int nC), .val (.int (Int32.ofNat lR)), .val (.int cp), .val (.int r11), .val (.int r13), .val (.int r15), .val (.int r17), .val (.int r19), .val (.int r21), .val (.int (Int32.ofNat lR)), .val (.int r23), .val (.int r25), .val (.int r27), .val (.ref xs29), .val .null, .val (.ref xs77), .unset, .unset] [(.int (0 : Int32))]))
              have eJ : own_b ((([r11, r13, r15] : List Int32).take lT) = ([69, 68] : List Int32)) = 0 := own_bf (fun q => hc298_85 ((own_tk hlT).mp q).2.1)
              rw [eJ] at kJ
              exact kJ
          · refine GoW.on (fun t k => XS.icmpYes Y77.here hx rfl (pc0 := 291) (pc' := 312) rfl (hb hby at_291) rfl (feq hc291_84).2 (by decide) (by decide) k) ?_
            show GoW p.tables e below s _ _ _ _ _ (T77.setTop (mkF m 312 #[.val (.int p1), .val (.int p2), .val (.int p3), .val (.int p4), .val (.int bT), .val (.int bC), .val (.int (Int32.ofNat lT)), .val (.int (Int32.ofNat lC)), .val (.int nT), .val (.int nC), .val (.int (Int32.ofNat lR)), .val (.int cp), .val (.int r11), .val (.int r13), .val (.int r15), .val (.int r17), .val (.int r19), .val (.int r21), .val (.int (Int32.ofNat lR)), .val (.int r23), .val (.int r25), .val (.int r27), .val (.ref xs29), .val .null, .val (.ref xs77), .unset, .unset] []))
            refine GoW.on (fun t k => XS.iconst Y77.here hx rfl (hb hby at_312) k) ?_
            show GoW p.tables e below s _ _ _ _ _ (T77.setTop (mkF m 313 #[.val (.int p1), .val (.int p2), .val (.int p3), .val (.int p4), .val (.int bT), .val (.int bC), .val (.int (Int32.ofNat lT)), .val (.int (Int32.ofNat lC)), .val (.int nT), .val (.int nC), .val (.int (Int32.ofNat lR)), .val (.int cp), .val (.int r11), .val (.int r13), .val (.int r15), .val (.int r17), .val (.int r19), .val (.int r21), .val (.int (Int32.ofNat lR)), .val (.int r23), .val (.int r25), .val (.int r27), .val (.ref xs29), .val .null, .val (.ref xs77), .unset, .unset] [(.int (0 : Int32))]))
            have eJ : own_b ((([r11, r13, r15] : List Int32).take lT) = ([69, 68] : List Int32)) = 0 := own_bf (fun q => hc291_84 ((own_num hlT (by decide : 2 ≤ 3)).mpr ((own_tk hlT).mp q).1))
            rw [eJ] at kJ
            exact kJ
        refine J83 ?_
        show GoW p.tables e below s _ _ _ _ _ (T77.setTop (mkF m 313 #[.val (.int p1), .val (.int p2), .val (.int p3), .val (.int p4), .val (.int bT), .val (.int bC), .val (.int (Int32.ofNat lT)), .val (.int (Int32.ofNat lC)), .val (.int nT), .val (.int nC), .val (.int (Int32.ofNat lR)), .val (.int cp), .val (.int r11), .val (.int r13), .val (.int r15), .val (.int r17), .val (.int r19), .val (.int r21), .val (.int (Int32.ofNat lR)), .val (.int r23), .val (.int r25), .val (.int r27), .val (.ref xs29), .val .null, .val (.ref xs77), .unset, .unset] [(.int (own_b ((([r11, r13, r15] : List Int32).take lT) = ([69, 68] : List Int32))))]))
        refine GoW.on (fun t k => XS.istore Y77.here hx rfl (hb hby at_313) rfl (l' := #[.val (.int p1), .val (.int p2), .val (.int p3), .val (.int p4), .val (.int bT), .val (.int bC), .val (.int (Int32.ofNat lT)), .val (.int (Int32.ofNat lC)), .val (.int nT), .val (.int nC), .val (.int (Int32.ofNat lR)), .val (.int cp), .val (.int r11), .val (.int r13), .val (.int r15), .val (.int r17), .val (.int r19), .val (.int r21), .val (.int (Int32.ofNat lR)), .val (.int r23), .val (.int r25), .val (.int r27), .val (.ref xs29), .val .null, .val (.ref xs77), .val (.int (own_b ((([r11, r13, r15] : List Int32).take lT) = ([69, 68] : List Int32)))), .unset]) rfl (XS.iload Y77.here hx rfl (hb hby at_315) rfl k)) ?_
        show GoW p.tables e below s _ _ _ _ _ (T77.setTop (mkF m 317 #[.val (.int p1), .val (.int p2), .val (.int p3), .val (.int p4), .val (.int bT), .val (.int bC), .val (.int (Int32.ofNat lT)), .val (.int (Int32.ofNat lC)), .val (.int nT), .val (.int nC), .val (.int (Int32.ofNat lR)), .val (.int cp), .val (.int r11), .val (.int r13), .val (.int r15), .val (.int r17), .val (.int r19), .val (.int r21), .val (.int (Int32.ofNat lR)), .val (.int r23), .val (.int r25), .val (.int r27), .val (.ref xs29), .val .null, .val (.ref xs77), .val (.int (own_b ((([r11, r13, r15] : List Int32).take lT) = ([69, 68] : List Int32)))), .unset] [(.int nC)]))
        refine GoW.on (fun t k => XS.ifYes Y77.here hx rfl (pc0 := 317) (pc' := 370) rfl (hb hby at_317) rfl ((if0 _ _).trans (feq hnC).2) (by decide) (by decide) k) ?_
        show GoW p.tables e below s _ _ _ _ _ (T77.setTop (mkF m 370 #[.val (.int p1), .val (.int p2), .val (.int p3), .val (.int p4), .val (.int bT), .val (.int bC), .val (.int (Int32.ofNat lT)), .val (.int (Int32.ofNat lC)), .val (.int nT), .val (.int nC), .val (.int (Int32.ofNat lR)), .val (.int cp), .val (.int r11), .val (.int r13), .val (.int r15), .val (.int r17), .val (.int r19), .val (.int r21), .val (.int (Int32.ofNat lR)), .val (.int r23), .val (.int r25), .val (.int r27), .val (.ref xs29), .val .null, .val (.ref xs77), .val (.int (own_b ((([r11, r13, r15] : List Int32).take lT) = ([69, 68] : List Int32)))), .unset] []))
        refine GoW.on (fun t k => XS.iconst Y77.here hx rfl (hb hby at_370) (XS.istore Y77.here hx rfl (hb hby at_371) rfl (l' := #[.val (.int p1), .val (.int p2), .val (.int p3), .val (.int p4), .val (.int bT), .val (.int bC), .val (.int (Int32.ofNat lT)), .val (.int (Int32.ofNat lC)), .val (.int nT), .val (.int nC), .val (.int (Int32.ofNat lR)), .val (.int cp), .val (.int r11), .val (.int r13), .val (.int r15), .val (.int r17), .val (.int r19), .val (.int r21), .val (.int (Int32.ofNat lR)), .val (.int r23), .val (.int r25), .val (.int r27), .val (.ref xs29), .val .null, .val (.ref xs77), .val (.int (own_b ((([r11, r13, r15] : List Int32).take lT) = ([69, 68] : List Int32)))), .val (.int (0 : Int32))]) rfl (XS.aload Y77.here hx rfl (hb hby at_373) rfl rfl (XS.aload Y77.here hx rfl (hb hby at_375) rfl rfl (XS.aload Y77.here hx rfl (hb hby at_377) rfl rfl k))))) ?_
        show GoW p.tables e below s _ _ _ _ _ (T77.setTop (mkF m 379 #[.val (.int p1), .val (.int p2), .val (.int p3), .val (.int p4), .val (.int bT), .val (.int bC), .val (.int (Int32.ofNat lT)), .val (.int (Int32.ofNat lC)), .val (.int nT), .val (.int nC), .val (.int (Int32.ofNat lR)), .val (.int cp), .val (.int r11), .val (.int r13), .val (.int r15), .val (.int r17), .val (.int r19), .val (.int r21), .val (.int (Int32.ofNat lR)), .val (.int r23), .val (.int r25), .val (.int r27), .val (.ref xs29), .val .null, .val (.ref xs77), .val (.int (own_b ((([r11, r13, r15] : List Int32).take lT) = ([69, 68] : List Int32)))), .val (.int (0 : Int32))] [(.ref xs77), .null, (.ref xs29)]))
        obtain ⟨_, _, ⟨T87, L87, k87, n87⟩, -, X87, Sn87, Gr87, ⟨Lc87, hQ87, l87, y87, z87, C87⟩, st87⟩ := callSS Y77 hx (y := (⟨"com/example/rhythmwire/rhythmwire/idc/CommonSegments", "isReport", "(Ljava/lang/String;Ljava/lang/String;Ljava/lang/String;)Z"⟩ : MethodName)) hown77 (mvT hZ77 (hw _ (List.mem_of_getElem? (i := 29) rfl))) (mvT hZ77 (hw _ (List.mem_of_getElem? (i := 30) rfl))) (mvT hZ77 (hw _ (List.mem_of_getElem? (i := 31) rfl))) (mvT hZ77 (hw _ (List.mem_of_getElem? (i := 32) rfl))) (by decide) (backOfSH (W := 0) (rm6rn l Z a0 hw [] xs29 xs77 G1 (([r11, r13, r15] : List Int32).take lT) (([r23, r25, r27] : List Int32).take lR) T77.heap n0 Zp81 Old0_79 O2 P5 P29_80 P77_0) hZ77 (hw _ (List.mem_of_getElem? (i := 32) rfl)) (hw _ (List.mem_of_getElem? (i := 31) rfl)) (by decide) (by decide) hEL Ch78.1) (g := (mkF m 379 #[.val (.int p1), .val (.int p2), .val (.int p3), .val (.int p4), .val (.int bT), .val (.int bC), .val (.int (Int32.ofNat lT)), .val (.int (Int32.ofNat lC)), .val (.int nT), .val (.int nC), .val (.int (Int32.ofNat lR)), .val (.int cp), .val (.int r11), .val (.int r13), .val (.int r15), .val (.int r17), .val (.int r19), .val (.int r21), .val (.int (Int32.ofNat lR)), .val (.int r23), .val (.int r25), .val (.int r27), .val (.ref xs29), .val .null, .val (.ref xs77), .val (.int (own_b ((([r11, r13, r15] : List Int32).take lT) = ([69, 68] : List Int32)))), .val (.int (0 : Int32))] [(.ref xs77), .null, (.ref xs29)])) rfl (by rw [hml]; rfl) (argsL := [(.ref xs29), .null, (.ref xs77)]) (rest := []) (lenOf pd__40_Ljava_47_lang_47_String_59_Ljava_47_lang_47_String_59_Ljava_47_lang_47_String_59__41_Z rfl) rfl (by show 2 * 0 + _ ≤ _; exact Nat.le_of_eq rfl) (hb hby at_379) (fun _ _ => ⟨rfl, rfl, (by decide : (((((((((((0 + 0) + 0) + 0) + 0) + 0) + 0) + 0) + 0) + 0) + 6) + 6) + 2 ≤ _), (by decide : (((((((((((0 + 0) + 0) + 0) + 0) + 0) + 0) + 0) + 0) + 0) + 12) + 12) + 12 ≤ _)⟩)
        dsimp only [Pt.U, Pt.locs, Pt.cells, Pt.slots] at X87 l87 y87 z87 st87 hQ87 Sn87 Gr87 C87
        rw [l87, y87, z87] at X87
        obtain ⟨Y87, hS87, hZ87, hown87⟩ := rebS hS77 (Nat.le_refl _) X87 Sn87 Gr87 hZ77 hown77
        obtain ⟨rfl, Nq87, Kq87⟩ := hQ87
        have Ch88 := Ch78.trans C87
        have Old0_89 := Old0_79.keep Kq87 all0
        have P29_90 := P29_80.keep0 Kq87
        have P77_91 := P77_0.keep0 Kq87
        have Zp92 := Nat.le_trans Zp81 Kq87.1
        have Np93 := Fr.app Np82 Nq87
        refine GoW.via st87 ?_
        show GoW p.tables e below s _ _ _ _ _ (T87.setTop (mkF m 382 #[.val (.int p1), .val (.int p2), .val (.int p3), .val (.int p4), .val (.int bT), .val (.int bC), .val (.int (Int32.ofNat lT)), .val (.int (Int32.ofNat lC)), .val (.int nT), .val (.int nC), .val (.int (Int32.ofNat lR)), .val (.int cp), .val (.int r11), .val (.int r13), .val (.int r15), .val (.int r17), .val (.int r19), .val (.int r21), .val (.int (Int32.ofNat lR)), .val (.int r23), .val (.int r25), .val (.int r27), .val (.ref xs29), .val .null, .val (.ref xs77), .val (.int (own_b ((([r11, r13, r15] : List Int32).take lT) = ([69, 68] : List Int32)))), .val (.int (0 : Int32))] [(.int (0 : Int32))]))
        refine GoW.on (fun t k => XS.iload Y87.here hx rfl (hb hby at_382) rfl k) ?_
        show GoW p.tables e below s _ _ _ _ _ (T87.setTop (mkF m 384 #[.val (.int p1), .val (.int p2), .val (.int p3), .val (.int p4), .val (.int bT), .val (.int bC), .val (.int (Int32.ofNat lT)), .val (.int (Int32.ofNat lC)), .val (.int nT), .val (.int nC), .val (.int (Int32.ofNat lR)), .val (.int cp), .val (.int r11), .val (.int r13), .val (.int r15), .val (.int r17), .val (.int r19), .val (.int r21), .val (.int (Int32.ofNat lR)), .val (.int r23), .val (.int r25), .val (.int r27), .val (.ref xs29), .val .null, .val (.ref xs77), .val (.int (own_b ((([r11, r13, r15] : List Int32).take lT) = ([69, 68] : List Int32)))), .val (.int (0 : Int32))] [(.int (own_b ((([r11, r13, r15] : List Int32).take lT) = ([69, 68] : List Int32)))), (.int (0 : Int32))]))
        by_cases hc384_94 : (own_b ((([r11, r13, r15] : List Int32).take lT) = ([69, 68] : List Int32))) = (0 : Int32)
        · refine GoW.on (fun t k => XS.ifYes Y87.here hx rfl (pc0 := 384) (pc' := 396) rfl (hb hby at_384) rfl ((if0 _ _).trans (teq hc384_94).1) (by decide) (by decide) k) ?_
          show GoW p.tables e below s _ _ _ _ _ (T87.setTop (mkF m 396 #[.val (.int p1), .val (.int p2), .val (.int p3), .val (.int p4), .val (.int bT), .val (.int bC), .val (.int (Int32.ofNat lT)), .val (.int (Int32.ofNat lC)), .val (.int nT), .val (.int nC), .val (.int (Int32.ofNat lR)), .val (.int cp), .val (.int r11), .val (.int r13), .val (.int r15), .val (.int r17), .val (.int r19), .val (.int r21), .val (.int (Int32.ofNat lR)), .val (.int r23), .val (.int r25), .val (.int r27), .val (.ref xs29), .val .null, .val (.ref xs77), .val (.int (own_b ((([r11, r13, r15] : List Int32).take lT) = ([69, 68] : List Int32)))), .val (.int (0 : Int32))] [(.int (0 : Int32))]))
          refine GoW.on (fun t k => XS.iconst Y87.here hx rfl (hb hby at_396) k) ?_
          show GoW p.tables e below s _ _ _ _ _ (T87.setTop (mkF m 397 #[.val (.int p1), .val (.int p2), .val (.int p3), .val (.int p4), .val (.int bT), .val (.int bC), .val (.int (Int32.ofNat lT)), .val (.int (Int32.ofNat lC)), .val (.int nT), .val (.int nC), .val (.int (Int32.ofNat lR)), .val (.int cp), .val (.int r11), .val (.int r13), .val (.int r15), .val (.int r17), .val (.int r19), .val (.int r21), .val (.int (Int32.ofNat lR)), .val (.int r23), .val (.int r25), .val (.int r27), .val (.ref xs29), .val .null, .val (.ref xs77), .val (.int (own_b ((([r11, r13, r15] : List Int32).take lT) = ([69, 68] : List Int32)))), .val (.int (0 : Int32))] [(.int (0 : Int32)), (.int (0 : Int32))]))
          refine GoW.on (fun t k => XS.icmpNo Y87.here hx rfl (hb hby at_397) rfl (teq (by decide : (0 : Int32) = (0 : Int32))).2 k) ?_
          show GoW p.tables e below s _ _ _ _ _ (T87.setTop (mkF m 400 #[.val (.int p1), .val (.int p2), .val (.int p3), .val (.int p4), .val (.int bT), .val (.int bC), .val (.int (Int32.ofNat lT)), .val (.int (Int32.ofNat lC)), .val (.int nT), .val (.int nC), .val (.int (Int32.ofNat lR)), .val (.int cp), .val (.int r11), .val (.int r13), .val (.int r15), .val (.int r17), .val (.int r19), .val (.int r21), .val (.int (Int32.ofNat lR)), .val (.int r23), .val (.int r25), .val (.int r27), .val (.ref xs29), .val .null, .val (.ref xs77), .val (.int (own_b ((([r11, r13, r15] : List Int32).take lT) = ([69, 68] : List Int32)))), .val (.int (0 : Int32))] []))
          refine GoW.on (fun t k => XS.iconst Y87.here hx rfl (hb hby at_400) (XS.goto Y87.here hx rfl (pc0 := 401) (pc' := 405) rfl (hb hby at_401) (by decide) (by decide) k)) ?_
          show GoW p.tables e below s _ _ _ _ _ (T87.setTop (mkF m 405 #[.val (.int p1), .val (.int p2), .val (.int p3), .val (.int p4), .val (.int bT), .val (.int bC), .val (.int (Int32.ofNat lT)), .val (.int (Int32.ofNat lC)), .val (.int nT), .val (.int nC), .val (.int (Int32.ofNat lR)), .val (.int cp), .val (.int r11), .val (.int r13), .val (.int r15), .val (.int r17), .val (.int r19), .val (.int r21), .val (.int (Int32.ofNat lR)), .val (.int r23), .val (.int r25), .val (.int r27), .val (.ref xs29), .val .null, .val (.ref xs77), .val (.int (own_b ((([r11, r13, r15] : List Int32).take lT) = ([69, 68] : List Int32)))), .val (.int (0 : Int32))] [(.int (1 : Int32))]))
          refine GoW.retN Y87 hx hlk hZ87 hS87 (Nat.le_refl _) hEL Ch88 (t := .boolean) Bd.returns (by simp) (hb hby at_405) (by decide) (by decide) rfl ?_
          exact ⟨rfl, Np93⟩
        · refine GoW.on (fun t k => XS.ifNo Y87.here hx rfl (hb hby at_384) rfl ((if0 _ _).trans (feq hc384_94).1) k) ?_
          show GoW p.tables e below s _ _ _ _ _ (T87.setTop (mkF m 387 #[.val (.int p1), .val (.int p2), .val (.int p3), .val (.int p4), .val (.int bT), .val (.int bC), .val (.int (Int32.ofNat lT)), .val (.int (Int32.ofNat lC)), .val (.int nT), .val (.int nC), .val (.int (Int32.ofNat lR)), .val (.int cp), .val (.int r11), .val (.int r13), .val (.int r15), .val (.int r17), .val (.int r19), .val (.int r21), .val (.int (Int32.ofNat lR)), .val (.int r23), .val (.int r25), .val (.int r27), .val (.ref xs29), .val .null, .val (.ref xs77), .val (.int (own_b ((([r11, r13, r15] : List Int32).take lT) = ([69, 68] : List Int32)))), .val (.int (0 : Int32))] [(.int (0 : Int32))]))
          refine GoW.on (fun t k => XS.iload Y87.here hx rfl (hb hby at_387) rfl k) ?_
          show GoW p.tables e below s _ _ _ _ _ (T87.setTop (mkF m 389 #[.val (.int p1), .val (.int p2), .val (.int p3), .val (.int p4), .val (.int bT), .val (.int bC), .val (.int (Int32.ofNat lT)), .val (.int (Int32.ofNat lC)), .val (.int nT), .val (.int nC), .val (.int (Int32.ofNat lR)), .val (.int cp), .val (.int r11), .val (.int r13), .val (.int r15), .val (.int r17), .val (.int r19), .val (.int r21), .val (.int (Int32.ofNat lR)), .val (.int r23), .val (.int r25), .val (.int r27), .val (.ref xs29), .val .null, .val (.ref xs77), .val (.int (own_b ((([r11, r13, r15] : List Int32).take lT) = ([69, 68] : List Int32)))), .val (.int (0 : Int32))] [(.int (0 : Int32)), (.int (0 : Int32))]))
          refine GoW.on (fun t k => XS.ifYes Y87.here hx rfl (pc0 := 389) (pc' := 396) rfl (hb hby at_389) rfl ((if0 _ _).trans (teq (by decide : (0 : Int32) = (0 : Int32))).1) (by decide) (by decide) k) ?_
          show GoW p.tables e below s _ _ _ _ _ (T87.setTop (mkF m 396 #[.val (.int p1), .val (.int p2), .val (.int p3), .val (.int p4), .val (.int bT), .val (.int bC), .val (.int (Int32.ofNat lT)), .val (.int (Int32.ofNat lC)), .val (.int nT), .val (.int nC), .val (.int (Int32.ofNat lR)), .val (.int cp), .val (.int r11), .val (.int r13), .val (.int r15), .val (.int r17), .val (.int r19), .val (.int r21), .val (.int (Int32.ofNat lR)), .val (.int r23), .val (.int r25), .val (.int r27), .val (.ref xs29), .val .null, .val (.ref xs77), .val (.int (own_b ((([r11, r13, r15] : List Int32).take lT) = ([69, 68] : List Int32)))), .val (.int (0 : Int32))] [(.int (0 : Int32))]))
          refine GoW.on (fun t k => XS.iconst Y87.here hx rfl (hb hby at_396) k) ?_
          show GoW p.tables e below s _ _ _ _ _ (T87.setTop (mkF m 397 #[.val (.int p1), .val (.int p2), .val (.int p3), .val (.int p4), .val (.int bT), .val (.int bC), .val (.int (Int32.ofNat lT)), .val (.int (Int32.ofNat lC)), .val (.int nT), .val (.int nC), .val (.int (Int32.ofNat lR)), .val (.int cp), .val (.int r11), .val (.int r13), .val (.int r15), .val (.int r17), .val (.int r19), .val (.int r21), .val (.int (Int32.ofNat lR)), .val (.int r23), .val (.int r25), .val (.int r27), .val (.ref xs29), .val .null, .val (.ref xs77), .val (.int (own_b ((([r11, r13, r15] : List Int32).take lT) = ([69, 68] : List Int32)))), .val (.int (0 : Int32))] [(.int (0 : Int32)), (.int (0 : Int32))]))
          refine GoW.on (fun t k => XS.icmpNo Y87.here hx rfl (hb hby at_397) rfl (teq (by decide : (0 : Int32) = (0 : Int32))).2 k) ?_
          show GoW p.tables e below s _ _ _ _ _ (T87.setTop (mkF m 400 #[.val (.int p1), .val (.int p2), .val (.int p3), .val (.int p4), .val (.int bT), .val (.int bC), .val (.int (Int32.ofNat lT)), .val (.int (Int32.ofNat lC)), .val (.int nT), .val (.int nC), .val (.int (Int32.ofNat lR)), .val (.int cp), .val (.int r11), .val (.int r13), .val (.int r15), .val (.int r17), .val (.int r19), .val (.int r21), .val (.int (Int32.ofNat lR)), .val (.int r23), .val (.int r25), .val (.int r27), .val (.ref xs29), .val .null, .val (.ref xs77), .val (.int (own_b ((([r11, r13, r15] : List Int32).take lT) = ([69, 68] : List Int32)))), .val (.int (0 : Int32))] []))
          refine GoW.on (fun t k => XS.iconst Y87.here hx rfl (hb hby at_400) (XS.goto Y87.here hx rfl (pc0 := 401) (pc' := 405) rfl (hb hby at_401) (by decide) (by decide) k)) ?_
          show GoW p.tables e below s _ _ _ _ _ (T87.setTop (mkF m 405 #[.val (.int p1), .val (.int p2), .val (.int p3), .val (.int p4), .val (.int bT), .val (.int bC), .val (.int (Int32.ofNat lT)), .val (.int (Int32.ofNat lC)), .val (.int nT), .val (.int nC), .val (.int (Int32.ofNat lR)), .val (.int cp), .val (.int r11), .val (.int r13), .val (.int r15), .val (.int r17), .val (.int r19), .val (.int r21), .val (.int (Int32.ofNat lR)), .val (.int r23), .val (.int r25), .val (.int r27), .val (.ref xs29), .val .null, .val (.ref xs77), .val (.int (own_b ((([r11, r13, r15] : List Int32).take lT) = ([69, 68] : List Int32)))), .val (.int (0 : Int32))] [(.int (1 : Int32))]))
          refine GoW.retN Y87 hx hlk hZ87 hS87 (Nat.le_refl _) hEL Ch88 (t := .boolean) Bd.returns (by simp) (hb hby at_405) (by decide) (by decide) rfl ?_
          exact ⟨rfl, Np93⟩
    · refine GoW.on (fun t k => XS.ifNo X27.here hx rfl (hb hby at_228) rfl ((if0 _ _).trans (feq hnT).1) k) ?_
      show GoW p.tables e below s _ _ _ _ _ (T27.setTop (mkF m 231 #[.val (.int p1), .val (.int p2), .val (.int p3), .val (.int p4), .val (.int bT), .val (.int bC), .val (.int (Int32.ofNat lT)), .val (.int (Int32.ofNat lC)), .val (.int nT), .val (.int nC), .val (.int (Int32.ofNat lR)), .val (.int cp), .val (.int r11), .val (.int r13), .val (.int r15), .val (.int r17), .val (.int r19), .val (.int r21), .val (.int (Int32.ofNat lR)), .val (.int r23), .val (.int r25), .val (.int r27), .unset, .unset, .unset, .unset, .unset] []))
      refine GoW.on (fun t k => XS.aconstNull X27.here hx rfl (hb hby at_231) (XS.goto X27.here hx rfl (pc0 := 232) (pc' := 246) rfl (hb hby at_232) (by decide) (by decide) (XS.astore X27.here hx rfl (hb hby at_246) rfl rfl (l' := #[.val (.int p1), .val (.int p2), .val (.int p3), .val (.int p4), .val (.int bT), .val (.int bC), .val (.int (Int32.ofNat lT)), .val (.int (Int32.ofNat lC)), .val (.int nT), .val (.int nC), .val (.int (Int32.ofNat lR)), .val (.int cp), .val (.int r11), .val (.int r13), .val (.int r15), .val (.int r17), .val (.int r19), .val (.int r21), .val (.int (Int32.ofNat lR)), .val (.int r23), .val (.int r25), .val (.int r27), .val .null, .unset, .unset, .unset, .unset]) rfl (XS.iload X27.here hx rfl (hb hby at_248) rfl k)))) ?_
      show GoW p.tables e below s _ _ _ _ _ (T27.setTop (mkF m 250 #[.val (.int p1), .val (.int p2), .val (.int p3), .val (.int p4), .val (.int bT), .val (.int bC), .val (.int (Int32.ofNat lT)), .val (.int (Int32.ofNat lC)), .val (.int nT), .val (.int nC), .val (.int (Int32.ofNat lR)), .val (.int cp), .val (.int r11), .val (.int r13), .val (.int r15), .val (.int r17), .val (.int r19), .val (.int r21), .val (.int (Int32.ofNat lR)), .val (.int r23), .val (.int r25), .val (.int r27), .val .null, .unset, .unset, .unset, .unset] [(.int nC)]))
      by_cases hnC : nC = (0 : Int32)
      · refine GoW.on (fun t k => XS.ifYes X27.here hx rfl (pc0 := 250) (pc' := 257) rfl (hb hby at_250) rfl ((if0 _ _).trans (teq hnC).1) (by decide) (by decide) k) ?_
        show GoW p.tables e below s _ _ _ _ _ (T27.setTop (mkF m 257 #[.val (.int p1), .val (.int p2), .val (.int p3), .val (.int p4), .val (.int bT), .val (.int bC), .val (.int (Int32.ofNat lT)), .val (.int (Int32.ofNat lC)), .val (.int nT), .val (.int nC), .val (.int (Int32.ofNat lR)), .val (.int cp), .val (.int r11), .val (.int r13), .val (.int r15), .val (.int r17), .val (.int r19), .val (.int r21), .val (.int (Int32.ofNat lR)), .val (.int r23), .val (.int r25), .val (.int r27), .val .null, .unset, .unset, .unset, .unset] []))
        refine GoW.on (fun t k => XS.iload X27.here hx rfl (hb hby at_257) rfl (XS.iload X27.here hx rfl (hb hby at_259) rfl (XS.iload X27.here hx rfl (hb hby at_261) rfl (XS.iload X27.here hx rfl (hb hby at_263) rfl k)))) ?_
        show GoW p.tables e below s _ _ _ _ _ (T27.setTop (mkF m 265 #[.val (.int p1), .val (.int p2), .val (.int p3), .val (.int p4), .val (.int bT), .val (.int bC), .val (.int (Int32.ofNat lT)), .val (.int (Int32.ofNat lC)), .val (.int nT), .val (.int nC), .val (.int (Int32.ofNat lR)), .val (.int cp), .val (.int r11), .val (.int r13), .val (.int r15), .val (.int r17), .val (.int r19), .val (.int r21), .val (.int (Int32.ofNat lR)), .val (.int r23), .val (.int r25), .val (.int r27), .val .null, .unset, .unset, .unset, .unset] [(.int r21), (.int r19), (.int r17), (.int (Int32.ofNat lC))]))
        obtain ⟨_, _, ⟨T95, L95, k95, n95⟩, -, X95, Sn95, Gr95, ⟨Lc95, hQ95, l95, y95, z95, C95⟩, st95⟩ := callSS X27 hx (y := (⟨"com/example/rhythmwire/rhythmwire/idc/CommonSegmentsIsReportPinLaw", "str", "(ICCC)Ljava/lang/String;"⟩ : MethodName)) hown (mvT hZ (hw _ (List.mem_of_getElem? (i := 4) rfl))) (mvT hZ (hw _ (List.mem_of_getElem? (i := 5) rfl))) (mvT hZ (hw _ (List.mem_of_getElem? (i := 2) rfl))) (mvT hZ (hw _ (List.mem_of_getElem? (i := 6) rfl))) (by decide) (backOfSH (W := 0) (rm2 l Z a0 hw [] (Int32.ofNat lC) r17 r19 r21 G1 lC h0 n0 Z0 Old0 O2 P5 rfl hlC P17_0 P19_0 P21_0) hZ (hw _ (List.mem_of_getElem? (i := 6) rfl)) (hw _ (List.mem_of_getElem? (i := 2) rfl)) (by decide) (by decide) hEL Ch0.1) (g := (mkF m 265 #[.val (.int p1), .val (.int p2), .val (.int p3), .val (.int p4), .val (.int bT), .val (.int bC), .val (.int (Int32.ofNat lT)), .val (.int (Int32.ofNat lC)), .val (.int nT), .val (.int nC), .val (.int (Int32.ofNat lR)), .val (.int cp), .val (.int r11), .val (.int r13), .val (.int r15), .val (.int r17), .val (.int r19), .val (.int r21), .val (.int (Int32.ofNat lR)), .val (.int r23), .val (.int r25), .val (.int r27), .val .null, .unset, .unset, .unset, .unset] [(.int r21), (.int r19), (.int r17), (.int (Int32.ofNat lC))])) rfl (by rw [hml]; rfl) (argsL := [(.int (Int32.ofNat lC)), (.int r17), (.int r19), (.int r21)]) (rest := []) (lenOf pd__40_ICCC_41_Ljava_47_lang_47_String_59_ rfl) rfl (by show 2 * 0 + _ ≤ _; exact Nat.le_of_eq rfl) (hb hby at_265) (fun _ _ => ⟨rfl, e27, (by decide : (((((((((0 + 0) + 0) + 0) + 0) + 0) + 0) + 0) + 0) + 0) + 6 ≤ _), (by decide : (((((((((0 + 0) + 0) + 0) + 0) + 0) + 0) + 0) + 0) + 0) + 12 ≤ _)⟩)
        dsimp only [Pt.U, Pt.locs, Pt.cells, Pt.slots] at X95 l95 y95 z95 st95 hQ95 Sn95 Gr95 C95
        rw [l95, y95, z95] at X95
        obtain ⟨Y95, hS95, hZ95, hown95⟩ := rebS hS0 (Nat.le_trans hk0 (Nat.le_of_eq (congrArg Array.size e27.symm))) X95 Sn95 Gr95 hZ hown
        obtain ⟨xs95, rfl, Nq95, Kq95, P95_0⟩ := hQ95
        have Ch96 := Ch0.trans C95
        have Old0_97 := Old0.keep Kq95 all0
        have Zp98 := Nat.le_trans Z0 Kq95.1
        have Np99 := Fr.app Np28 Nq95
        refine GoW.via st95 ?_
        show GoW p.tables e below s _ _ _ _ _ (T95.setTop (mkF m 268 #[.val (.int p1), .val (.int p2), .val (.int p3), .val (.int p4), .val (.int bT), .val (.int bC), .val (.int (Int32.ofNat lT)), .val (.int (Int32.ofNat lC)), .val (.int nT), .val (.int nC), .val (.int (Int32.ofNat lR)), .val (.int cp), .val (.int r11), .val (.int r13), .val (.int r15), .val (.int r17), .val (.int r19), .val (.int r21), .val (.int (Int32.ofNat lR)), .val (.int r23), .val (.int r25), .val (.int r27), .val .null, .unset, .unset, .unset, .unset] [(.ref xs95)]))
        refine GoW.on (fun t k => XS.astore Y95.here hx rfl (hb hby at_268) rfl rfl (l' := #[.val (.int p1), .val (.int p2), .val (.int p3), .val (.int p4), .val (.int bT), .val (.int bC), .val (.int (Int32.ofNat lT)), .val (.int (Int32.ofNat lC)), .val (.int nT), .val (.int nC), .val (.int (Int32.ofNat lR)), .val (.int cp), .val (.int r11), .val (.int r13), .val (.int r15), .val (.int r17), .val (.int r19), .val (.int r21), .val (.int (Int32.ofNat lR)), .val (.int r23), .val (.int r25), .val (.int r27), .val .null, .val (.ref xs95), .unset, .unset, .unset]) rfl (XS.iload Y95.here hx rfl (hb hby at_270) rfl (XS.iload Y95.here hx rfl (hb hby at_272) rfl (XS.iload Y95.here hx rfl (hb hby at_274) rfl (XS.iload Y95.here hx rfl (hb hby at_276) rfl k))))) ?_
        show GoW p.tables e below s _ _ _ _ _ (T95.setTop (mkF m 278 #[.val (.int p1), .val (.int p2), .val (.int p3), .val (.int p4), .val (.int bT), .val (.int bC), .val (.int (Int32.ofNat lT)), .val (.int (Int32.ofNat lC)), .val (.int nT), .val (.int nC), .val (.int (Int32.ofNat lR)), .val (.int cp), .val (.int r11), .val (.int r13), .val (.int r15), .val (.int r17), .val (.int r19), .val (.int r21), .val (.int (Int32.ofNat lR)), .val (.int r23), .val (.int r25), .val (.int r27), .val .null, .val (.ref xs95), .unset, .unset, .unset] [(.int r27), (.int r25), (.int r23), (.int (Int32.ofNat lR))]))
        obtain ⟨_, _, ⟨T100, L100, k100, n100⟩, -, X100, Sn100, Gr100, ⟨Lc100, hQ100, l100, y100, z100, C100⟩, st100⟩ := callSS Y95 hx (y := (⟨"com/example/rhythmwire/rhythmwire/idc/CommonSegmentsIsReportPinLaw", "str", "(ICCC)Ljava/lang/String;"⟩ : MethodName)) hown95 (mvT hZ95 (hw _ (List.mem_of_getElem? (i := 4) rfl))) (mvT hZ95 (hw _ (List.mem_of_getElem? (i := 5) rfl))) (mvT hZ95 (hw _ (List.mem_of_getElem? (i := 2) rfl))) (mvT hZ95 (hw _ (List.mem_of_getElem? (i := 6) rfl))) (by decide) (backOfSH (W := 0) (rm2 l Z a0 hw [] (Int32.ofNat lR) r23 r25 r27 G1 lR T95.heap n0 Zp98 Old0_97 O2 P5 rfl hlR P23_0 P25_0 P27_0) hZ95 (hw _ (List.mem_of_getElem? (i := 6) rfl)) (hw _ (List.mem_of_getElem? (i := 2) rfl)) (by decide) (by decide) hEL Ch96.1) (g := (mkF m 278 #[.val (.int p1), .val (.int p2), .val (.int p3), .val (.int p4), .val (.int bT), .val (.int bC), .val (.int (Int32.ofNat lT)), .val (.int (Int32.ofNat lC)), .val (.int nT), .val (.int nC), .val (.int (Int32.ofNat lR)), .val (.int cp), .val (.int r11), .val (.int r13), .val (.int r15), .val (.int r17), .val (.int r19), .val (.int r21), .val (.int (Int32.ofNat lR)), .val (.int r23), .val (.int r25), .val (.int r27), .val .null, .val (.ref xs95), .unset, .unset, .unset] [(.int r27), (.int r25), (.int r23), (.int (Int32.ofNat lR))])) rfl (by rw [hml]; rfl) (argsL := [(.int (Int32.ofNat lR)), (.int r23), (.int r25), (.int r27)]) (rest := []) (lenOf pd__40_ICCC_41_Ljava_47_lang_47_String_59_ rfl) rfl (by show 2 * 0 + _ ≤ _; exact Nat.le_of_eq rfl) (hb hby at_278) (fun _ _ => ⟨rfl, rfl, (by decide : ((((((((((0 + 0) + 0) + 0) + 0) + 0) + 0) + 0) + 0) + 0) + 6) + 6 ≤ _), (by decide : ((((((((((0 + 0) + 0) + 0) + 0) + 0) + 0) + 0) + 0) + 0) + 12) + 12 ≤ _)⟩)
        dsimp only [Pt.U, Pt.locs, Pt.cells, Pt.slots] at X100 l100 y100 z100 st100 hQ100 Sn100 Gr100 C100
        rw [l100, y100, z100] at X100
        obtain ⟨Y100, hS100, hZ100, hown100⟩ := rebS hS95 (Nat.le_refl _) X100 Sn100 Gr100 hZ95 hown95
        obtain ⟨xs100, rfl, Nq100, Kq100, P100_0⟩ := hQ100
        have Ch101 := Ch96.trans C100
        have Old0_102 := Old0_97.keep Kq100 all0
        have P95_103 := P95_0.keep0 Kq100
        have Zp104 := Nat.le_trans Zp98 Kq100.1
        have Np105 := Fr.app Np99 Nq100
        refine GoW.via st100 ?_
        show GoW p.tables e below s _ _ _ _ _ (T100.setTop (mkF m 281 #[.val (.int p1), .val (.int p2), .val (.int p3), .val (.int p4), .val (.int bT), .val (.int bC), .val (.int (Int32.ofNat lT)), .val (.int (Int32.ofNat lC)), .val (.int nT), .val (.int nC), .val (.int (Int32.ofNat lR)), .val (.int cp), .val (.int r11), .val (.int r13), .val (.int r15), .val (.int r17), .val (.int r19), .val (.int r21), .val (.int (Int32.ofNat lR)), .val (.int r23), .val (.int r25), .val (.int r27), .val .null, .val (.ref xs95), .unset, .unset, .unset] [(.ref xs100)]))
        refine GoW.on (fun t k => XS.astore Y100.here hx rfl (hb hby at_281) rfl rfl (l' := #[.val (.int p1), .val (.int p2), .val (.int p3), .val (.int p4), .val (.int bT), .val (.int bC), .val (.int (Int32.ofNat lT)), .val (.int (Int32.ofNat lC)), .val (.int nT), .val (.int nC), .val (.int (Int32.ofNat lR)), .val (.int cp), .val (.int r11), .val (.int r13), .val (.int r15), .val (.int r17), .val (.int r19), .val (.int r21), .val (.int (Int32.ofNat lR)), .val (.int r23), .val (.int r25), .val (.int r27), .val .null, .val (.ref xs95), .val (.ref xs100), .unset, .unset]) rfl (XS.iload Y100.here hx rfl (hb hby at_283) rfl k)) ?_
        show GoW p.tables e below s _ _ _ _ _ (T100.setTop (mkF m 285 #[.val (.int p1), .val (.int p2), .val (.int p3), .val (.int p4), .val (.int bT), .val (.int bC), .val (.int (Int32.ofNat lT)), .val (.int (Int32.ofNat lC)), .val (.int nT), .val (.int nC), .val (.int (Int32.ofNat lR)), .val (.int cp), .val (.int r11), .val (.int r13), .val (.int r15), .val (.int r17), .val (.int r19), .val (.int r21), .val (.int (Int32.ofNat lR)), .val (.int r23), .val (.int r25), .val (.int r27), .val .null, .val (.ref xs95), .val (.ref xs100), .unset, .unset] [(.int nT)]))
        refine GoW.on (fun t k => XS.ifYes Y100.here hx rfl (pc0 := 285) (pc' := 312) rfl (hb hby at_285) rfl ((if0 _ _).trans (feq hnT).2) (by decide) (by decide) k) ?_
        show GoW p.tables e below s _ _ _ _ _ (T100.setTop (mkF m 312 #[.val (.int p1), .val (.int p2), .val (.int p3), .val (.int p4), .val (.int bT), .val (.int bC), .val (.int (Int32.ofNat lT)), .val (.int (Int32.ofNat lC)), .val (.int nT), .val (.int nC), .val (.int (Int32.ofNat lR)), .val (.int cp), .val (.int r11), .val (.int r13), .val (.int r15), .val (.int r17), .val (.int r19), .val (.int r21), .val (.int (Int32.ofNat lR)), .val (.int r23), .val (.int r25), .val (.int r27), .val .null, .val (.ref xs95), .val (.ref xs100), .unset, .unset] []))
        refine GoW.on (fun t k => XS.iconst Y100.here hx rfl (hb hby at_312) (XS.istore Y100.here hx rfl (hb hby at_313) rfl (l' := #[.val (.int p1), .val (.int p2), .val (.int p3), .val (.int p4), .val (.int bT), .val (.int bC), .val (.int (Int32.ofNat lT)), .val (.int (Int32.ofNat lC)), .val (.int nT), .val (.int nC), .val (.int (Int32.ofNat lR)), .val (.int cp), .val (.int r11), .val (.int r13), .val (.int r15), .val (.int r17), .val (.int r19), .val (.int r21), .val (.int (Int32.ofNat lR)), .val (.int r23), .val (.int r25), .val (.int r27), .val .null, .val (.ref xs95), .val (.ref xs100), .val (.int (0 : Int32)), .unset]) rfl (XS.iload Y100.here hx rfl (hb hby at_315) rfl k))) ?_
        show GoW p.tables e below s _ _ _ _ _ (T100.setTop (mkF m 317 #[.val (.int p1), .val (.int p2), .val (.int p3), .val (.int p4), .val (.int bT), .val (.int bC), .val (.int (Int32.ofNat lT)), .val (.int (Int32.ofNat lC)), .val (.int nT), .val (.int nC), .val (.int (Int32.ofNat lR)), .val (.int cp), .val (.int r11), .val (.int r13), .val (.int r15), .val (.int r17), .val (.int r19), .val (.int r21), .val (.int (Int32.ofNat lR)), .val (.int r23), .val (.int r25), .val (.int r27), .val .null, .val (.ref xs95), .val (.ref xs100), .val (.int (0 : Int32)), .unset] [(.int nC)]))
        refine GoW.on (fun t k => XS.ifNo Y100.here hx rfl (hb hby at_317) rfl ((if0 _ _).trans (teq hnC).2) k) ?_
        show GoW p.tables e below s _ _ _ _ _ (T100.setTop (mkF m 320 #[.val (.int p1), .val (.int p2), .val (.int p3), .val (.int p4), .val (.int bT), .val (.int bC), .val (.int (Int32.ofNat lT)), .val (.int (Int32.ofNat lC)), .val (.int nT), .val (.int nC), .val (.int (Int32.ofNat lR)), .val (.int cp), .val (.int r11), .val (.int r13), .val (.int r15), .val (.int r17), .val (.int r19), .val (.int r21), .val (.int (Int32.ofNat lR)), .val (.int r23), .val (.int r25), .val (.int r27), .val .null, .val (.ref xs95), .val (.ref xs100), .val (.int (0 : Int32)), .unset] []))
        refine GoW.on (fun t k => XS.iload Y100.here hx rfl (hb hby at_320) rfl (XS.iload Y100.here hx rfl (hb hby at_322) rfl k)) ?_
        show GoW p.tables e below s _ _ _ _ _ (T100.setTop (mkF m 324 #[.val (.int p1), .val (.int p2), .val (.int p3), .val (.int p4), .val (.int bT), .val (.int bC), .val (.int (Int32.ofNat lT)), .val (.int (Int32.ofNat lC)), .val (.int nT), .val (.int nC), .val (.int (Int32.ofNat lR)), .val (.int cp), .val (.int r11), .val (.int r13), .val (.int r15), .val (.int r17), .val (.int r19), .val (.int r21), .val (.int (Int32.ofNat lR)), .val (.int r23), .val (.int r25), .val (.int r27), .val .null, .val (.ref xs95), .val (.ref xs100), .val (.int (0 : Int32)), .unset] [(.int (Int32.ofNat lR)), (.int (Int32.ofNat lC))]))
        have J106 : GoW p.tables e below s (Q0 Z p1 p2 p3 p4 G1 h0 n0) Z own_EL room_1.cells room_1.slots (T100.setTop (mkF m 371 #[.val (.int p1), .val (.int p2), .val (.int p3), .val (.int p4), .val (.int bT), .val (.int bC), .val (.int (Int32.ofNat lT)), .val (.int (Int32.ofNat lC)), .val (.int nT), .val (.int nC), .val (.int (Int32.ofNat lR)), .val (.int cp), .val (.int r11), .val (.int r13), .val (.int r15), .val (.int r17), .val (.int r19), .val (.int r21), .val (.int (Int32.ofNat lR)), .val (.int r23), .val (.int r25), .val (.int r27), .val .null, .val (.ref xs95), .val (.ref xs100), .val (.int (0 : Int32)), .unset] [(.int (own_b ((([r17, r19, r21] : List Int32).take lC) = (([r23, r25, r27] : List Int32).take lR))))])) → GoW p.tables e below s (Q0 Z p1 p2 p3 p4 G1 h0 n0) Z own_EL room_1.cells room_1.slots (T100.setTop (mkF m 324 #[.val (.int p1), .val (.int p2), .val (.int p3), .val (.int p4), .val (.int bT), .val (.int bC), .val (.int (Int32.ofNat lT)), .val (.int (Int32.ofNat lC)), .val (.int nT), .val (.int nC), .val (.int (Int32.ofNat lR)), .val (.int cp), .val (.int r11), .val (.int r13), .val (.int r15), .val (.int r17), .val (.int r19), .val (.int r21), .val (.int (Int32.ofNat lR)), .val (.int r23), .val (.int r25), .val (.int r27), .val .null, .val (.ref xs95), .val (.ref xs100), .val (.int (0 : Int32)), .unset] [(.int (Int32.ofNat lR)), (.int (Int32.ofNat lC))])) := by
          intro kJ
          by_cases hc324_107 : (Int32.ofNat lC) = (Int32.ofNat lR)
          · refine GoW.on (fun t k => XS.icmpNo Y100.here hx rfl (hb hby at_324) rfl (teq hc324_107).2 k) ?_
            show GoW p.tables e below s _ _ _ _ _ (T100.setTop (mkF m 327 #[.val (.int p1), .val (.int p2), .val (.int p3), .val (.int p4), .val (.int bT), .val (.int bC), .val (.int (Int32.ofNat lT)), .val (.int (Int32.ofNat lC)), .val (.int nT), .val (.int nC), .val (.int (Int32.ofNat lR)), .val (.int cp), .val (.int r11), .val (.int r13), .val (.int r15), .val (.int r17), .val (.int r19), .val (.int r21), .val (.int (Int32.ofNat lR)), .val (.int r23), .val (.int r25), .val (.int r27), .val .null, .val (.ref xs95), .val (.ref xs100), .val (.int (0 : Int32)), .unset] []))
            refine GoW.on (fun t k => XS.iload Y100.here hx rfl (hb hby at_327) rfl (XS.iconst Y100.here hx rfl (hb hby at_329) k)) ?_
            show GoW p.tables e below s _ _ _ _ _ (T100.setTop (mkF m 330 #[.val (.int p1), .val (.int p2), .val (.int p3), .val (.int p4), .val (.int bT), .val (.int bC), .val (.int (Int32.ofNat lT)), .val (.int (Int32.ofNat lC)), .val (.int nT), .val (.int nC), .val (.int (Int32.ofNat lR)), .val (.int cp), .val (.int r11), .val (.int r13), .val (.int r15), .val (.int r17), .val (.int r19), .val (.int r21), .val (.int (Int32.ofNat lR)), .val (.int r23), .val (.int r25), .val (.int r27), .val .null, .val (.ref xs95), .val (.ref xs100), .val (.int (0 : Int32)), .unset] [(.int (1 : Int32)), (.int (Int32.ofNat lC))]))
            by_cases hc330_108 : (Int32.ofNat lC) < (1 : Int32)
            · refine GoW.on (fun t k => XS.icmpYes Y100.here hx rfl (pc0 := 330) (pc' := 340) rfl (hb hby at_330) rfl (tlt hc330_108).1 (by decide) (by decide) k) ?_
              show GoW p.tables e below s _ _ _ _ _ (T100.setTop (mkF m 340 #[.val (.int p1), .val (.int p2), .val (.int p3), .val (.int p4), .val (.int bT), .val (.int bC), .val (.int (Int32.ofNat lT)), .val (.int (Int32.ofNat lC)), .val (.int nT), .val (.int nC), .val (.int (Int32.ofNat lR)), .val (.int cp), .val (.int r11), .val (.int r13), .val (.int r15), .val (.int r17), .val (.int r19), .val (.int r21), .val (.int (Int32.ofNat lR)), .val (.int r23), .val (.int r25), .val (.int r27), .val .null, .val (.ref xs95), .val (.ref xs100), .val (.int (0 : Int32)), .unset] []))
              refine GoW.on (fun t k => XS.iload Y100.here hx rfl (hb hby at_340) rfl (XS.iconst Y100.here hx rfl (hb hby at_342) k)) ?_
              show GoW p.tables e below s _ _ _ _ _ (T100.setTop (mkF m 343 #[.val (.int p1), .val (.int p2), .val (.int p3), .val (.int p4), .val (.int bT), .val (.int bC), .val (.int (Int32.ofNat lT)), .val (.int (Int32.ofNat lC)), .val (.int nT), .val (.int nC), .val (.int (Int32.ofNat lR)), .val (.int cp), .val (.int r11), .val (.int r13), .val (.int r15), .val (.int r17), .val (.int r19), .val (.int r21), .val (.int (Int32.ofNat lR)), .val (.int r23), .val (.int r25), .val (.int r27), .val .null, .val (.ref xs95), .val (.ref xs100), .val (.int (0 : Int32)), .unset] [(.int (2 : Int32)), (.int (Int32.ofNat lC))]))
              by_cases hc343_109 : (Int32.ofNat lC) < (2 : Int32)
              · refine GoW.on (fun t k => XS.icmpYes Y100.here hx rfl (pc0 := 343) (pc' := 353) rfl (hb hby at_343) rfl (tlt hc343_109).1 (by decide) (by decide) k) ?_
                show GoW p.tables e below s _ _ _ _ _ (T100.setTop (mkF m 353 #[.val (.int p1), .val (.int p2), .val (.int p3), .val (.int p4), .val (.int bT), .val (.int bC), .val (.int (Int32.ofNat lT)), .val (.int (Int32.ofNat lC)), .val (.int nT), .val (.int nC), .val (.int (Int32.ofNat lR)), .val (.int cp), .val (.int r11), .val (.int r13), .val (.int r15), .val (.int r17), .val (.int r19), .val (.int r21), .val (.int (Int32.ofNat lR)), .val (.int r23), .val (.int r25), .val (.int r27), .val .null, .val (.ref xs95), .val (.ref xs100), .val (.int (0 : Int32)), .unset] []))
                refine GoW.on (fun t k => XS.iload Y100.here hx rfl (hb hby at_353) rfl (XS.iconst Y100.here hx rfl (hb hby at_355) k)) ?_
                show GoW p.tables e below s _ _ _ _ _ (T100.setTop (mkF m 356 #[.val (.int p1), .val (.int p2), .val (.int p3), .val (.int p4), .val (.int bT), .val (.int bC), .val (.int (Int32.ofNat lT)), .val (.int (Int32.ofNat lC)), .val (.int nT), .val (.int nC), .val (.int (Int32.ofNat lR)), .val (.int cp), .val (.int r11), .val (.int r13), .val (.int r15), .val (.int r17), .val (.int r19), .val (.int r21), .val (.int (Int32.ofNat lR)), .val (.int r23), .val (.int r25), .val (.int r27), .val .null, .val (.ref xs95), .val (.ref xs100), .val (.int (0 : Int32)), .unset] [(.int (3 : Int32)), (.int (Int32.ofNat lC))]))
                by_cases hc356_110 : (Int32.ofNat lC) < (3 : Int32)
                · refine GoW.on (fun t k => XS.icmpYes Y100.here hx rfl (pc0 := 356) (pc' := 366) rfl (hb hby at_356) rfl (tlt hc356_110).1 (by decide) (by decide) k) ?_
                  show GoW p.tables e below s _ _ _ _ _ (T100.setTop (mkF m 366 #[.val (.int p1), .val (.int p2), .val (.int p3), .val (.int p4), .val (.int bT), .val (.int bC), .val (.int (Int32.ofNat lT)), .val (.int (Int32.ofNat lC)), .val (.int nT), .val (.int nC), .val (.int (Int32.ofNat lR)), .val (.int cp), .val (.int r11), .val (.int r13), .val (.int r15), .val (.int r17), .val (.int r19), .val (.int r21), .val (.int (Int32.ofNat lR)), .val (.int r23), .val (.int r25), .val (.int r27), .val .null, .val (.ref xs95), .val (.ref xs100), .val (.int (0 : Int32)), .unset] []))
                  refine GoW.on (fun t k => XS.iconst Y100.here hx rfl (hb hby at_366) (XS.goto Y100.here hx rfl (pc0 := 367) (pc' := 371) rfl (hb hby at_367) (by decide) (by decide) k)) ?_
                  show GoW p.tables e below s _ _ _ _ _ (T100.setTop (mkF m 371 #[.val (.int p1), .val (.int p2), .val (.int p3), .val (.int p4), .val (.int bT), .val (.int bC), .val (.int (Int32.ofNat lT)), .val (.int (Int32.ofNat lC)), .val (.int nT), .val (.int nC), .val (.int (Int32.ofNat lR)), .val (.int cp), .val (.int r11), .val (.int r13), .val (.int r15), .val (.int r17), .val (.int r19), .val (.int r21), .val (.int (Int32.ofNat lR)), .val (.int r23), .val (.int r25), .val (.int r27), .val .null, .val (.ref xs95), .val (.ref xs100), .val (.int (0 : Int32)), .unset] [(.int (1 : Int32))]))
                  have eJ : own_b ((([r17, r19, r21] : List Int32).take lC) = (([r23, r25, r27] : List Int32).take lR)) = 1 := own_bt ((own_tke hlC hlR).mpr ⟨hc324_107, Or.inl hc330_108, Or.inl hc343_109, Or.inl hc356_110⟩)
                  rw [eJ] at kJ
                  exact kJ
                · refine GoW.on (fun t k => XS.icmpNo Y100.here hx rfl (hb hby at_356) rfl (flt hc356_110).1 k) ?_
                  show GoW p.tables e below s _ _ _ _ _ (T100.setTop (mkF m 359 #[.val (.int p1), .val (.int p2), .val (.int p3), .val (.int p4), .val (.int bT), .val (.int bC), .val (.int (Int32.ofNat lT)), .val (.int (Int32.ofNat lC)), .val (.int nT), .val (.int nC), .val (.int (Int32.ofNat lR)), .val (.int cp), .val (.int r11), .val (.int r13), .val (.int r15), .val (.int r17), .val (.int r19), .val (.int r21), .val (.int (Int32.ofNat lR)), .val (.int r23), .val (.int r25), .val (.int r27), .val .null, .val (.ref xs95), .val (.ref xs100), .val (.int (0 : Int32)), .unset] []))
                  refine GoW.on (fun t k => XS.iload Y100.here hx rfl (hb hby at_359) rfl (XS.iload Y100.here hx rfl (hb hby at_361) rfl k)) ?_
                  show GoW p.tables e below s _ _ _ _ _ (T100.setTop (mkF m 363 #[.val (.int p1), .val (.int p2), .val (.int p3), .val (.int p4), .val (.int bT), .val (.int bC), .val (.int (Int32.ofNat lT)), .val (.int (Int32.ofNat lC)), .val (.int nT), .val (.int nC), .val (.int (Int32.ofNat lR)), .val (.int cp), .val (.int r11), .val (.int r13), .val (.int r15), .val (.int r17), .val (.int r19), .val (.int r21), .val (.int (Int32.ofNat lR)), .val (.int r23), .val (.int r25), .val (.int r27), .val .null, .val (.ref xs95), .val (.ref xs100), .val (.int (0 : Int32)), .unset] [(.int r27), (.int r21)]))
                  by_cases hc363_111 : r21 = r27
                  · refine GoW.on (fun t k => XS.icmpNo Y100.here hx rfl (hb hby at_363) rfl (teq hc363_111).2 k) ?_
                    show GoW p.tables e below s _ _ _ _ _ (T100.setTop (mkF m 366 #[.val (.int p1), .val (.int p2), .val (.int p3), .val (.int p4), .val (.int bT), .val (.int bC), .val (.int (Int32.ofNat lT)), .val (.int (Int32.ofNat lC)), .val (.int nT), .val (.int nC), .val (.int (Int32.ofNat lR)), .val (.int cp), .val (.int r11), .val (.int r13), .val (.int r15), .val (.int r17), .val (.int r19), .val (.int r21), .val (.int (Int32.ofNat lR)), .val (.int r23), .val (.int r25), .val (.int r27), .val .null, .val (.ref xs95), .val (.ref xs100), .val (.int (0 : Int32)), .unset] []))
                    refine GoW.on (fun t k => XS.iconst Y100.here hx rfl (hb hby at_366) (XS.goto Y100.here hx rfl (pc0 := 367) (pc' := 371) rfl (hb hby at_367) (by decide) (by decide) k)) ?_
                    show GoW p.tables e below s _ _ _ _ _ (T100.setTop (mkF m 371 #[.val (.int p1), .val (.int p2), .val (.int p3), .val (.int p4), .val (.int bT), .val (.int bC), .val (.int (Int32.ofNat lT)), .val (.int (Int32.ofNat lC)), .val (.int nT), .val (.int nC), .val (.int (Int32.ofNat lR)), .val (.int cp), .val (.int r11), .val (.int r13), .val (.int r15), .val (.int r17), .val (.int r19), .val (.int r21), .val (.int (Int32.ofNat lR)), .val (.int r23), .val (.int r25), .val (.int r27), .val .null, .val (.ref xs95), .val (.ref xs100), .val (.int (0 : Int32)), .unset] [(.int (1 : Int32))]))
                    have eJ : own_b ((([r17, r19, r21] : List Int32).take lC) = (([r23, r25, r27] : List Int32).take lR)) = 1 := own_bt ((own_tke hlC hlR).mpr ⟨hc324_107, Or.inl hc330_108, Or.inl hc343_109, Or.inr hc363_111⟩)
                    rw [eJ] at kJ
                    exact kJ
                  · refine GoW.on (fun t k => XS.icmpYes Y100.here hx rfl (pc0 := 363) (pc' := 370) rfl (hb hby at_363) rfl (feq hc363_111).2 (by decide) (by decide) k) ?_
                    show GoW p.tables e below s _ _ _ _ _ (T100.setTop (mkF m 370 #[.val (.int p1), .val (.int p2), .val (.int p3), .val (.int p4), .val (.int bT), .val (.int bC), .val (.int (Int32.ofNat lT)), .val (.int (Int32.ofNat lC)), .val (.int nT), .val (.int nC), .val (.int (Int32.ofNat lR)), .val (.int cp), .val (.int r11), .val (.int r13), .val (.int r15), .val (.int r17), .val (.int r19), .val (.int r21), .val (.int (Int32.ofNat lR)), .val (.int r23), .val (.int r25), .val (.int r27), .val .null, .val (.ref xs95), .val (.ref xs100), .val (.int (0 : Int32)), .unset] []))
                    refine GoW.on (fun t k => XS.iconst Y100.here hx rfl (hb hby at_370) k) ?_
                    show GoW p.tables e below s _ _ _ _ _ (T100.setTop (mkF m 371 #[.val (.int p1), .val (.int p2), .val (.int p3), .val (.int p4), .val (.int bT), .val (.int bC), .val (.int (Int32.ofNat lT)), .val (.int (Int32.ofNat lC)), .val (.int nT), .val (.int nC), .val (.int (Int32.ofNat lR)), .val (.int cp), .val (.int r11), .val (.int r13), .val (.int r15), .val (.int r17), .val (.int r19), .val (.int r21), .val (.int (Int32.ofNat lR)), .val (.int r23), .val (.int r25), .val (.int r27), .val .null, .val (.ref xs95), .val (.ref xs100), .val (.int (0 : Int32)), .unset] [(.int (0 : Int32))]))
                    have eJ : own_b ((([r17, r19, r21] : List Int32).take lC) = (([r23, r25, r27] : List Int32).take lR)) = 0 := own_bf (fun q => ((own_tke hlC hlR).mp q).2.2.2.elim (fun z => hc356_110 z) (fun z => hc363_111 z))
                    rw [eJ] at kJ
                    exact kJ
              · refine GoW.on (fun t k => XS.icmpNo Y100.here hx rfl (hb hby at_343) rfl (flt hc343_109).1 k) ?_
                show GoW p.tables e below s _ _ _ _ _ (T100.setTop (mkF m 346 #[.val (.int p1), .val (.int p2), .val (.int p3), .val (.int p4), .val (.int bT), .val (.int bC), .val (.int (Int32.ofNat lT)), .val (.int (Int32.ofNat lC)), .val (.int nT), .val (.int nC), .val (.int (Int32.ofNat lR)), .val (.int cp), .val (.int r11), .val (.int r13), .val (.int r15), .val (.int r17), .val (.int r19), .val (.int r21), .val (.int (Int32.ofNat lR)), .val (.int r23), .val (.int r25), .val (.int r27), .val .null, .val (.ref xs95), .val (.ref xs100), .val (.int (0 : Int32)), .unset] []))
                refine GoW.on (fun t k => XS.iload Y100.here hx rfl (hb hby at_346) rfl (XS.iload Y100.here hx rfl (hb hby at_348) rfl k)) ?_
                show GoW p.tables e below s _ _ _ _ _ (T100.setTop (mkF m 350 #[.val (.int p1), .val (.int p2), .val (.int p3), .val (.int p4), .val (.int bT), .val (.int bC), .val (.int (Int32.ofNat lT)), .val (.int (Int32.ofNat lC)), .val (.int nT), .val (.int nC), .val (.int (Int32.ofNat lR)), .val (.int cp), .val (.int r11), .val (.int r13), .val (.int r15), .val (.int r17), .val (.int r19), .val (.int r21), .val (.int (Int32.ofNat lR)), .val (.int r23), .val (.int r25), .val (.int r27), .val .null, .val (.ref xs95), .val (.ref xs100), .val (.int (0 : Int32)), .unset] [(.int r25), (.int r19)]))
                by_cases hc350_112 : r19 = r25
                · refine GoW.on (fun t k => XS.icmpNo Y100.here hx rfl (hb hby at_350) rfl (teq hc350_112).2 k) ?_
                  show GoW p.tables e below s _ _ _ _ _ (T100.setTop (mkF m 353 #[.val (.int p1), .val (.int p2), .val (.int p3), .val (.int p4), .val (.int bT), .val (.int bC), .val (.int (Int32.ofNat lT)), .val (.int (Int32.ofNat lC)), .val (.int nT), .val (.int nC), .val (.int (Int32.ofNat lR)), .val (.int cp), .val (.int r11), .val (.int r13), .val (.int r15), .val (.int r17), .val (.int r19), .val (.int r21), .val (.int (Int32.ofNat lR)), .val (.int r23), .val (.int r25), .val (.int r27), .val .null, .val (.ref xs95), .val (.ref xs100), .val (.int (0 : Int32)), .unset] []))
                  refine GoW.on (fun t k => XS.iload Y100.here hx rfl (hb hby at_353) rfl (XS.iconst Y100.here hx rfl (hb hby at_355) k)) ?_
                  show GoW p.tables e below s _ _ _ _ _ (T100.setTop (mkF m 356 #[.val (.int p1), .val (.int p2), .val (.int p3), .val (.int p4), .val (.int bT), .val (.int bC), .val (.int (Int32.ofNat lT)), .val (.int (Int32.ofNat lC)), .val (.int nT), .val (.int nC), .val (.int (Int32.ofNat lR)), .val (.int cp), .val (.int r11), .val (.int r13), .val (.int r15), .val (.int r17), .val (.int r19), .val (.int r21), .val (.int (Int32.ofNat lR)), .val (.int r23), .val (.int r25), .val (.int r27), .val .null, .val (.ref xs95), .val (.ref xs100), .val (.int (0 : Int32)), .unset] [(.int (3 : Int32)), (.int (Int32.ofNat lC))]))
                  by_cases hc356_113 : (Int32.ofNat lC) < (3 : Int32)
                  · refine GoW.on (fun t k => XS.icmpYes Y100.here hx rfl (pc0 := 356) (pc' := 366) rfl (hb hby at_356) rfl (tlt hc356_113).1 (by decide) (by decide) k) ?_
                    show GoW p.tables e below s _ _ _ _ _ (T100.setTop (mkF m 366 #[.val (.int p1), .val (.int p2), .val (.int p3), .val (.int p4), .val (.int bT), .val (.int bC), .val (.int (Int32.ofNat lT)), .val (.int (Int32.ofNat lC)), .val (.int nT), .val (.int nC), .val (.int (Int32.ofNat lR)), .val (.int cp), .val (.int r11), .val (.int r13), .val (.int r15), .val (.int r17), .val (.int r19), .val (.int r21), .val (.int (Int32.ofNat lR)), .val (.int r23), .val (.int r25), .val (.int r27), .val .null, .val (.ref xs95), .val (.ref xs100), .val (.int (0 : Int32)), .unset] []))
                    refine GoW.on (fun t k => XS.iconst Y100.here hx rfl (hb hby at_366) (XS.goto Y100.here hx rfl (pc0 := 367) (pc' := 371) rfl (hb hby at_367) (by decide) (by decide) k)) ?_
                    show GoW p.tables e below s _ _ _ _ _ (T100.setTop (mkF m 371 #[.val (.int p1), .val (.int p2), .val (.int p3), .val (.int p4), .val (.int bT), .val (.int bC), .val (.int (Int32.ofNat lT)), .val (.int (Int32.ofNat lC)), .val (.int nT), .val (.int nC), .val (.int (Int32.ofNat lR)), .val (.int cp), .val (.int r11), .val (.int r13), .val (.int r15), .val (.int r17), .val (.int r19), .val (.int r21), .val (.int (Int32.ofNat lR)), .val (.int r23), .val (.int r25), .val (.int r27), .val .null, .val (.ref xs95), .val (.ref xs100), .val (.int (0 : Int32)), .unset] [(.int (1 : Int32))]))
                    have eJ : own_b ((([r17, r19, r21] : List Int32).take lC) = (([r23, r25, r27] : List Int32).take lR)) = 1 := own_bt ((own_tke hlC hlR).mpr ⟨hc324_107, Or.inl hc330_108, Or.inr hc350_112, Or.inl hc356_113⟩)
                    rw [eJ] at kJ
                    exact kJ
                  · refine GoW.on (fun t k => XS.icmpNo Y100.here hx rfl (hb hby at_356) rfl (flt hc356_113).1 k) ?_
                    show GoW p.tables e below s _ _ _ _ _ (T100.setTop (mkF m 359 #[.val (.int p1), .val (.int p2), .val (.int p3), .val (.int p4), .val (.int bT), .val (.int bC), .val (.int (Int32.ofNat lT)), .val (.int (Int32.ofNat lC)), .val (.int nT), .val (.int nC), .val (.int (Int32.ofNat lR)), .val (.int cp), .val (.int r11), .val (.int r13), .val (.int r15), .val (.int r17), .val (.int r19), .val (.int r21), .val (.int (Int32.ofNat lR)), .val (.int r23), .val (.int r25), .val (.int r27), .val .null, .val (.ref xs95), .val (.ref xs100), .val (.int (0 : Int32)), .unset] []))
                    refine GoW.on (fun t k => XS.iload Y100.here hx rfl (hb hby at_359) rfl (XS.iload Y100.here hx rfl (hb hby at_361) rfl k)) ?_
                    show GoW p.tables e below s _ _ _ _ _ (T100.setTop (mkF m 363 #[.val (.int p1), .val (.int p2), .val (.int p3), .val (.int p4), .val (.int bT), .val (.int bC), .val (.int (Int32.ofNat lT)), .val (.int (Int32.ofNat lC)), .val (.int nT), .val (.int nC), .val (.int (Int32.ofNat lR)), .val (.int cp), .val (.int r11), .val (.int r13), .val (.int r15), .val (.int r17), .val (.int r19), .val (.int r21), .val (.int (Int32.ofNat lR)), .val (.int r23), .val (.int r25), .val (.int r27), .val .null, .val (.ref xs95), .val (.ref xs100), .val (.int (0 : Int32)), .unset] [(.int r27), (.int r21)]))
                    by_cases hc363_114 : r21 = r27
                    · refine GoW.on (fun t k => XS.icmpNo Y100.here hx rfl (hb hby at_363) rfl (teq hc363_114).2 k) ?_
                      show GoW p.tables e below s _ _ _ _ _ (T100.setTop (mkF m 366 #[.val (.int p1), .val (.int p2), .val (.int p3), .val (.int p4), .val (.int bT), .val (.int bC), .val (.int (Int32.ofNat lT)), .val (.int (Int32.ofNat lC)), .val (.int nT), .val (.int nC), .val (.int (Int32.ofNat lR)), .val (.int cp), .val (.int r11), .val (.int r13), .val (.int r15), .val (.int r17), .val (.int r19), .val (.int r21), .val (.int (Int32.ofNat lR)), .val (.int r23), .val (.int r25), .val (.int r27), .val .null, .val (.ref xs95), .val (.ref xs100), .val (.int (0 : Int32)), .unset] []))
                      refine GoW.on (fun t k => XS.iconst Y100.here hx rfl (hb hby at_366) (XS.goto Y100.here hx rfl (pc0 := 367) (pc' := 371) rfl (hb hby at_367) (by decide) (by decide) k)) ?_
                      show GoW p.tables e below s _ _ _ _ _ (T100.setTop (mkF m 371 #[.val (.int p1), .val (.int p2), .val (.int p3), .val (.int p4), .val (.int bT), .val (.int bC), .val (.int (Int32.ofNat lT)), .val (.int (Int32.ofNat lC)), .val (.int nT), .val (.int nC), .val (.int (Int32.ofNat lR)), .val (.int cp), .val (.int r11), .val (.int r13), .val (.int r15), .val (.int r17), .val (.int r19), .val (.int r21), .val (.int (Int32.ofNat lR)), .val (.int r23), .val (.int r25), .val (.int r27), .val .null, .val (.ref xs95), .val (.ref xs100), .val (.int (0 : Int32)), .unset] [(.int (1 : Int32))]))
                      have eJ : own_b ((([r17, r19, r21] : List Int32).take lC) = (([r23, r25, r27] : List Int32).take lR)) = 1 := own_bt ((own_tke hlC hlR).mpr ⟨hc324_107, Or.inl hc330_108, Or.inr hc350_112, Or.inr hc363_114⟩)
                      rw [eJ] at kJ
                      exact kJ
                    · refine GoW.on (fun t k => XS.icmpYes Y100.here hx rfl (pc0 := 363) (pc' := 370) rfl (hb hby at_363) rfl (feq hc363_114).2 (by decide) (by decide) k) ?_
                      show GoW p.tables e below s _ _ _ _ _ (T100.setTop (mkF m 370 #[.val (.int p1), .val (.int p2), .val (.int p3), .val (.int p4), .val (.int bT), .val (.int bC), .val (.int (Int32.ofNat lT)), .val (.int (Int32.ofNat lC)), .val (.int nT), .val (.int nC), .val (.int (Int32.ofNat lR)), .val (.int cp), .val (.int r11), .val (.int r13), .val (.int r15), .val (.int r17), .val (.int r19), .val (.int r21), .val (.int (Int32.ofNat lR)), .val (.int r23), .val (.int r25), .val (.int r27), .val .null, .val (.ref xs95), .val (.ref xs100), .val (.int (0 : Int32)), .unset] []))
                      refine GoW.on (fun t k => XS.iconst Y100.here hx rfl (hb hby at_370) k) ?_
                      show GoW p.tables e below s _ _ _ _ _ (T100.setTop (mkF m 371 #[.val (.int p1), .val (.int p2), .val (.int p3), .val (.int p4), .val (.int bT), .val (.int bC), .val (.int (Int32.ofNat lT)), .val (.int (Int32.ofNat lC)), .val (.int nT), .val (.int nC), .val (.int (Int32.ofNat lR)), .val (.int cp), .val (.int r11), .val (.int r13), .val (.int r15), .val (.int r17), .val (.int r19), .val (.int r21), .val (.int (Int32.ofNat lR)), .val (.int r23), .val (.int r25), .val (.int r27), .val .null, .val (.ref xs95), .val (.ref xs100), .val (.int (0 : Int32)), .unset] [(.int (0 : Int32))]))
                      have eJ : own_b ((([r17, r19, r21] : List Int32).take lC) = (([r23, r25, r27] : List Int32).take lR)) = 0 := own_bf (fun q => ((own_tke hlC hlR).mp q).2.2.2.elim (fun z => hc356_113 z) (fun z => hc363_114 z))
                      rw [eJ] at kJ
                      exact kJ
                · refine GoW.on (fun t k => XS.icmpYes Y100.here hx rfl (pc0 := 350) (pc' := 370) rfl (hb hby at_350) rfl (feq hc350_112).2 (by decide) (by decide) k) ?_
                  show GoW p.tables e below s _ _ _ _ _ (T100.setTop (mkF m 370 #[.val (.int p1), .val (.int p2), .val (.int p3), .val (.int p4), .val (.int bT), .val (.int bC), .val (.int (Int32.ofNat lT)), .val (.int (Int32.ofNat lC)), .val (.int nT), .val (.int nC), .val (.int (Int32.ofNat lR)), .val (.int cp), .val (.int r11), .val (.int r13), .val (.int r15), .val (.int r17), .val (.int r19), .val (.int r21), .val (.int (Int32.ofNat lR)), .val (.int r23), .val (.int r25), .val (.int r27), .val .null, .val (.ref xs95), .val (.ref xs100), .val (.int (0 : Int32)), .unset] []))
                  refine GoW.on (fun t k => XS.iconst Y100.here hx rfl (hb hby at_370) k) ?_
                  show GoW p.tables e below s _ _ _ _ _ (T100.setTop (mkF m 371 #[.val (.int p1), .val (.int p2), .val (.int p3), .val (.int p4), .val (.int bT), .val (.int bC), .val (.int (Int32.ofNat lT)), .val (.int (Int32.ofNat lC)), .val (.int nT), .val (.int nC), .val (.int (Int32.ofNat lR)), .val (.int cp), .val (.int r11), .val (.int r13), .val (.int r15), .val (.int r17), .val (.int r19), .val (.int r21), .val (.int (Int32.ofNat lR)), .val (.int r23), .val (.int r25), .val (.int r27), .val .null, .val (.ref xs95), .val (.ref xs100), .val (.int (0 : Int32)), .unset] [(.int (0 : Int32))]))
                  have eJ : own_b ((([r17, r19, r21] : List Int32).take lC) = (([r23, r25, r27] : List Int32).take lR)) = 0 := own_bf (fun q => ((own_tke hlC hlR).mp q).2.2.1.elim (fun z => hc343_109 z) (fun z => hc350_112 z))
                  rw [eJ] at kJ
                  exact kJ
            · refine GoW.on (fun t k => XS.icmpNo Y100.here hx rfl (hb hby at_330) rfl (flt hc330_108).1 k) ?_
              show GoW p.tables e below s _ _ _ _ _ (T100.setTop (mkF m 333 #[.val (.int p1), .val (.int p2), .val (.int p3), .val (.int p4), .val (.int bT), .val (.int bC), .val (.int (Int32.ofNat lT)), .val (.int (Int32.ofNat lC)), .val (.int nT), .val (.int nC), .val (.int (Int32.ofNat lR)), .val (.int cp), .val (.int r11), .val (.int r13), .val (.int r15), .val (.int r17), .val (.int r19), .val (.int r21), .val (.int (Int32.ofNat lR)), .val (.int r23), .val (.int r25), .val (.int r27), .val .null, .val (.ref xs95), .val (.ref xs100), .val (.int (0 : Int32)), .unset] []))
              refine GoW.on (fun t k => XS.iload Y100.here hx rfl (hb hby at_333) rfl (XS.iload Y100.here hx rfl (hb hby at_335) rfl k)) ?_
              show GoW p.tables e below s _ _ _ _ _ (T100.setTop (mkF m 337 #[.val (.int p1), .val (.int p2), .val (.int p3), .val (.int p4), .val (.int bT), .val (.int bC), .val (.int (Int32.ofNat lT)), .val (.int (Int32.ofNat lC)), .val (.int nT), .val (.int nC), .val (.int (Int32.ofNat lR)), .val (.int cp), .val (.int r11), .val (.int r13), .val (.int r15), .val (.int r17), .val (.int r19), .val (.int r21), .val (.int (Int32.ofNat lR)), .val (.int r23), .val (.int r25), .val (.int r27), .val .null, .val (.ref xs95), .val (.ref xs100), .val (.int (0 : Int32)), .unset] [(.int r23), (.int r17)]))
              by_cases hc337_115 : r17 = r23
              · refine GoW.on (fun t k => XS.icmpNo Y100.here hx rfl (hb hby at_337) rfl (teq hc337_115).2 k) ?_
                show GoW p.tables e below s _ _ _ _ _ (T100.setTop (mkF m 340 #[.val (.int p1), .val (.int p2), .val (.int p3), .val (.int p4), .val (.int bT), .val (.int bC), .val (.int (Int32.ofNat lT)), .val (.int (Int32.ofNat lC)), .val (.int nT), .val (.int nC), .val (.int (Int32.ofNat lR)), .val (.int cp), .val (.int r11), .val (.int r13), .val (.int r15), .val (.int r17), .val (.int r19), .val (.int r21), .val (.int (Int32.ofNat lR)), .val (.int r23), .val (.int r25), .val (.int r27), .val .null, .val (.ref xs95), .val (.ref xs100), .val (.int (0 : Int32)), .unset] []))
                refine GoW.on (fun t k => XS.iload Y100.here hx rfl (hb hby at_340) rfl (XS.iconst Y100.here hx rfl (hb hby at_342) k)) ?_
                show GoW p.tables e below s _ _ _ _ _ (T100.setTop (mkF m 343 #[.val (.int p1), .val (.int p2), .val (.int p3), .val (.int p4), .val (.int bT), .val (.int bC), .val (.int (Int32.ofNat lT)), .val (.int (Int32.ofNat lC)), .val (.int nT), .val (.int nC), .val (.int (Int32.ofNat lR)), .val (.int cp), .val (.int r11), .val (.int r13), .val (.int r15), .val (.int r17), .val (.int r19), .val (.int r21), .val (.int (Int32.ofNat lR)), .val (.int r23), .val (.int r25), .val (.int r27), .val .null, .val (.ref xs95), .val (.ref xs100), .val (.int (0 : Int32)), .unset] [(.int (2 : Int32)), (.int (Int32.ofNat lC))]))
                by_cases hc343_116 : (Int32.ofNat lC) < (2 : Int32)
                · refine GoW.on (fun t k => XS.icmpYes Y100.here hx rfl (pc0 := 343) (pc' := 353) rfl (hb hby at_343) rfl (tlt hc343_116).1 (by decide) (by decide) k) ?_
                  show GoW p.tables e below s _ _ _ _ _ (T100.setTop (mkF m 353 #[.val (.int p1), .val (.int p2), .val (.int p3), .val (.int p4), .val (.int bT), .val (.int bC), .val (.int (Int32.ofNat lT)), .val (.int (Int32.ofNat lC)), .val (.int nT), .val (.int nC), .val (.int (Int32.ofNat lR)), .val (.int cp), .val (.int r11), .val (.int r13), .val (.int r15), .val (.int r17), .val (.int r19), .val (.int r21), .val (.int (Int32.ofNat lR)), .val (.int r23), .val (.int r25), .val (.int r27), .val .null, .val (.ref xs95), .val (.ref xs100), .val (.int (0 : Int32)), .unset] []))
                  refine GoW.on (fun t k => XS.iload Y100.here hx rfl (hb hby at_353) rfl (XS.iconst Y100.here hx rfl (hb hby at_355) k)) ?_
                  show GoW p.tables e below s _ _ _ _ _ (T100.setTop (mkF m 356 #[.val (.int p1), .val (.int p2), .val (.int p3), .val (.int p4), .val (.int bT), .val (.int bC), .val (.int (Int32.ofNat lT)), .val (.int (Int32.ofNat lC)), .val (.int nT), .val (.int nC), .val (.int (Int32.ofNat lR)), .val (.int cp), .val (.int r11), .val (.int r13), .val (.int r15), .val (.int r17), .val (.int r19), .val (.int r21), .val (.int (Int32.ofNat lR)), .val (.int r23), .val (.int r25), .val (.int r27), .val .null, .val (.ref xs95), .val (.ref xs100), .val (.int (0 : Int32)), .unset] [(.int (3 : Int32)), (.int (Int32.ofNat lC))]))
                  by_cases hc356_117 : (Int32.ofNat lC) < (3 : Int32)
                  · refine GoW.on (fun t k => XS.icmpYes Y100.here hx rfl (pc0 := 356) (pc' := 366) rfl (hb hby at_356) rfl (tlt hc356_117).1 (by decide) (by decide) k) ?_
                    show GoW p.tables e below s _ _ _ _ _ (T100.setTop (mkF m 366 #[.val (.int p1), .val (.int p2), .val (.int p3), .val (.int p4), .val (.int bT), .val (.int bC), .val (.int (Int32.ofNat lT)), .val (.int (Int32.ofNat lC)), .val (.int nT), .val (.int nC), .val (.int (Int32.ofNat lR)), .val (.int cp), .val (.int r11), .val (.int r13), .val (.int r15), .val (.int r17), .val (.int r19), .val (.int r21), .val (.int (Int32.ofNat lR)), .val (.int r23), .val (.int r25), .val (.int r27), .val .null, .val (.ref xs95), .val (.ref xs100), .val (.int (0 : Int32)), .unset] []))
                    refine GoW.on (fun t k => XS.iconst Y100.here hx rfl (hb hby at_366) (XS.goto Y100.here hx rfl (pc0 := 367) (pc' := 371) rfl (hb hby at_367) (by decide) (by decide) k)) ?_
                    show GoW p.tables e below s _ _ _ _ _ (T100.setTop (mkF m 371 #[.val (.int p1), .val (.int p2), .val (.int p3), .val (.int p4), .val (.int bT), .val (.int bC), .val (.int (Int32.ofNat lT)), .val (.int (Int32.ofNat lC)), .val (.int nT), .val (.int nC), .val (.int (Int32.ofNat lR)), .val (.int cp), .val (.int r11), .val (.int r13), .val (.int r15), .val (.int r17), .val (.int r19), .val (.int r21), .val (.int (Int32.ofNat lR)), .val (.int r23), .val (.int r25), .val (.int r27), .val .null, .val (.ref xs95), .val (.ref xs100), .val (.int (0 : Int32)), .unset] [(.int (1 : Int32))]))
                    have eJ : own_b ((([r17, r19, r21] : List Int32).take lC) = (([r23, r25, r27] : List Int32).take lR)) = 1 := own_bt ((own_tke hlC hlR).mpr ⟨hc324_107, Or.inr hc337_115, Or.inl hc343_116, Or.inl hc356_117⟩)
                    rw [eJ] at kJ
                    exact kJ
                  · refine GoW.on (fun t k => XS.icmpNo Y100.here hx rfl (hb hby at_356) rfl (flt hc356_117).1 k) ?_
                    show GoW p.tables e below s _ _ _ _ _ (T100.setTop (mkF m 359 #[.val (.int p1), .val (.int p2), .val (.int p3), .val (.int p4), .val (.int bT), .val (.int bC), .val (.int (Int32.ofNat lT)), .val (.int (Int32.ofNat lC)), .val (.int nT), .val (.int nC), .val (.int (Int32.ofNat lR)), .val (.int cp), .val (.int r11), .val (.int r13), .val (.int r15), .val (.int r17), .val (.int r19), .val (.int r21), .val (.int (Int32.ofNat lR)), .val (.int r23), .val (.int r25), .val (.int r27), .val .null, .val (.ref xs95), .val (.ref xs100), .val (.int (0 : Int32)), .unset] []))
                    refine GoW.on (fun t k => XS.iload Y100.here hx rfl (hb hby at_359) rfl (XS.iload Y100.here hx rfl (hb hby at_361) rfl k)) ?_
                    show GoW p.tables e below s _ _ _ _ _ (T100.setTop (mkF m 363 #[.val (.int p1), .val (.int p2), .val (.int p3), .val (.int p4), .val (.int bT), .val (.int bC), .val (.int (Int32.ofNat lT)), .val (.int (Int32.ofNat lC)), .val (.int nT), .val (.int nC), .val (.int (Int32.ofNat lR)), .val (.int cp), .val (.int r11), .val (.int r13), .val (.int r15), .val (.int r17), .val (.int r19), .val (.int r21), .val (.int (Int32.ofNat lR)), .val (.int r23), .val (.int r25), .val (.int r27), .val .null, .val (.ref xs95), .val (.ref xs100), .val (.int (0 : Int32)), .unset] [(.int r27), (.int r21)]))
                    by_cases hc363_118 : r21 = r27
                    · refine GoW.on (fun t k => XS.icmpNo Y100.here hx rfl (hb hby at_363) rfl (teq hc363_118).2 k) ?_
                      show GoW p.tables e below s _ _ _ _ _ (T100.setTop (mkF m 366 #[.val (.int p1), .val (.int p2), .val (.int p3), .val (.int p4), .val (.int bT), .val (.int bC), .val (.int (Int32.ofNat lT)), .val (.int (Int32.ofNat lC)), .val (.int nT), .val (.int nC), .val (.int (Int32.ofNat lR)), .val (.int cp), .val (.int r11), .val (.int r13), .val (.int r15), .val (.int r17), .val (.int r19), .val (.int r21), .val (.int (Int32.ofNat lR)), .val (.int r23), .val (.int r25), .val (.int r27), .val .null, .val (.ref xs95), .val (.ref xs100), .val (.int (0 : Int32)), .unset] []))
                      refine GoW.on (fun t k => XS.iconst Y100.here hx rfl (hb hby at_366) (XS.goto Y100.here hx rfl (pc0 := 367) (pc' := 371) rfl (hb hby at_367) (by decide) (by decide) k)) ?_
                      show GoW p.tables e below s _ _ _ _ _ (T100.setTop (mkF m 371 #[.val (.int p1), .val (.int p2), .val (.int p3), .val (.int p4), .val (.int bT), .val (.int bC), .val (.int (Int32.ofNat lT)), .val (.int (Int32.ofNat lC)), .val (.int nT), .val (.int nC), .val (.int (Int32.ofNat lR)), .val (.int cp), .val (.int r11), .val (.int r13), .val (.int r15), .val (.int r17), .val (.int r19), .val (.int r21), .val (.int (Int32.ofNat lR)), .val (.int r23), .val (.int r25), .val (.int r27), .val .null, .val (.ref xs95), .val (.ref xs100), .val (.int (0 : Int32)), .unset] [(.int (1 : Int32))]))
                      have eJ : own_b ((([r17, r19, r21] : List Int32).take lC) = (([r23, r25, r27] : List Int32).take lR)) = 1 := own_bt ((own_tke hlC hlR).mpr ⟨hc324_107, Or.inr hc337_115, Or.inl hc343_116, Or.inr hc363_118⟩)
                      rw [eJ] at kJ
                      exact kJ
                    · refine GoW.on (fun t k => XS.icmpYes Y100.here hx rfl (pc0 := 363) (pc' := 370) rfl (hb hby at_363) rfl (feq hc363_118).2 (by decide) (by decide) k) ?_
                      show GoW p.tables e below s _ _ _ _ _ (T100.setTop (mkF m 370 #[.val (.int p1), .val (.int p2), .val (.int p3), .val (.int p4), .val (.int bT), .val (.int bC), .val (.int (Int32.ofNat lT)), .val (.int (Int32.ofNat lC)), .val (.int nT), .val (.int nC), .val (.int (Int32.ofNat lR)), .val (.int cp), .val (.int r11), .val (.int r13), .val (.int r15), .val (.int r17), .val (.int r19), .val (.int r21), .val (.int (Int32.ofNat lR)), .val (.int r23), .val (.int r25), .val (.int r27), .val .null, .val (.ref xs95), .val (.ref xs100), .val (.int (0 : Int32)), .unset] []))
                      refine GoW.on (fun t k => XS.iconst Y100.here hx rfl (hb hby at_370) k) ?_
                      show GoW p.tables e below s _ _ _ _ _ (T100.setTop (mkF m 371 #[.val (.int p1), .val (.int p2), .val (.int p3), .val (.int p4), .val (.int bT), .val (.int bC), .val (.int (Int32.ofNat lT)), .val (.int (Int32.ofNat lC)), .val (.int nT), .val (.int nC), .val (.int (Int32.ofNat lR)), .val (.int cp), .val (.int r11), .val (.int r13), .val (.int r15), .val (.int r17), .val (.int r19), .val (.int r21), .val (.int (Int32.ofNat lR)), .val (.int r23), .val (.int r25), .val (.int r27), .val .null, .val (.ref xs95), .val (.ref xs100), .val (.int (0 : Int32)), .unset] [(.int (0 : Int32))]))
                      have eJ : own_b ((([r17, r19, r21] : List Int32).take lC) = (([r23, r25, r27] : List Int32).take lR)) = 0 := own_bf (fun q => ((own_tke hlC hlR).mp q).2.2.2.elim (fun z => hc356_117 z) (fun z => hc363_118 z))
                      rw [eJ] at kJ
                      exact kJ
                · refine GoW.on (fun t k => XS.icmpNo Y100.here hx rfl (hb hby at_343) rfl (flt hc343_116).1 k) ?_
                  show GoW p.tables e below s _ _ _ _ _ (T100.setTop (mkF m 346 #[.val (.int p1), .val (.int p2), .val (.int p3), .val (.int p4), .val (.int bT), .val (.int bC), .val (.int (Int32.ofNat lT)), .val (.int (Int32.ofNat lC)), .val (.int nT), .val (.int nC), .val (.int (Int32.ofNat lR)), .val (.int cp), .val (.int r11), .val (.int r13), .val (.int r15), .val (.int r17), .val (.int r19), .val (.int r21), .val (.int (Int32.ofNat lR)), .val (.int r23), .val (.int r25), .val (.int r27), .val .null, .val (.ref xs95), .val (.ref xs100), .val (.int (0 : Int32)), .unset] []))
                  refine GoW.on (fun t k => XS.iload Y100.here hx rfl (hb hby at_346) rfl (XS.iload Y100.here hx rfl (hb hby at_348) rfl k)) ?_
                  show GoW p.tables e below s _ _ _ _ _ (T100.setTop (mkF m 350 #[.val (.int p1), .val (.int p2), .val (.int p3), .val (.int p4), .val (.int bT), .val (.int bC), .val (.int (Int32.ofNat lT)), .val (.int (Int32.ofNat lC)), .val (.int nT), .val (.int nC), .val (.int (Int32.ofNat lR)), .val (.int cp), .val (.int r11), .val (.int r13), .val (.int r15), .val (.int r17), .val (.int r19), .val (.int r21), .val (.int (Int32.ofNat lR)), .val (.int r23), .val (.int r25), .val (.int r27), .val .null, .val (.ref xs95), .val (.ref xs100), .val (.int (0 : Int32)), .unset] [(.int r25), (.int r19)]))
                  by_cases hc350_119 : r19 = r25
                  · refine GoW.on (fun t k => XS.icmpNo Y100.here hx rfl (hb hby at_350) rfl (teq hc350_119).2 k) ?_
                    show GoW p.tables e below s _ _ _ _ _ (T100.setTop (mkF m 353 #[.val (.int p1), .val (.int p2), .val (.int p3), .val (.int p4), .val (.int bT), .val (.int bC), .val (.int (Int32.ofNat lT)), .val (.int (Int32.ofNat lC)), .val (.int nT), .val (.int nC), .val (.int (Int32.ofNat lR)), .val (.int cp), .val (.int r11), .val (.int r13), .val (.int r15), .val (.int r17), .val (.int r19), .val (.int r21), .val (.int (Int32.ofNat lR)), .val (.int r23), .val (.int r25), .val (.int r27), .val .null, .val (.ref xs95), .val (.ref xs100), .val (.int (0 : Int32)), .unset] []))
                    refine GoW.on (fun t k => XS.iload Y100.here hx rfl (hb hby at_353) rfl (XS.iconst Y100.here hx rfl (hb hby at_355) k)) ?_
                    show GoW p.tables e below s _ _ _ _ _ (T100.setTop (mkF m 356 #[.val (.int p1), .val (.int p2), .val (.int p3), .val (.int p4), .val (.int bT), .val (.int bC), .val (.int (Int32.ofNat lT)), .val (.int (Int32.ofNat lC)), .val (.int nT), .val (.int nC), .val (.int (Int32.ofNat lR)), .val (.int cp), .val (.int r11), .val (.int r13), .val (.int r15), .val (.int r17), .val (.int r19), .val (.int r21), .val (.int (Int32.ofNat lR)), .val (.int r23), .val (.int r25), .val (.int r27), .val .null, .val (.ref xs95), .val (.ref xs100), .val (.int (0 : Int32)), .unset] [(.int (3 : Int32)), (.int (Int32.ofNat lC))]))
                    by_cases hc356_120 : (Int32.ofNat lC) < (3 : Int32)
                    · refine GoW.on (fun t k => XS.icmpYes Y100.here hx rfl (pc0 := 356) (pc' := 366) rfl (hb hby at_356) rfl (tlt hc356_120).1 (by decide) (by decide) k) ?_
                      show GoW p.tables e below s _ _ _ _ _ (T100.setTop (mkF m 366 #[.val (.int p1), .val (.int p2), .val (.int p3), .val (.int p4), .val (.int bT), .val (.int bC), .val (.int (Int32.ofNat lT)), .val (.int (Int32.ofNat lC)), .val (.int nT), .val (.int nC), .val (.int (Int32.ofNat lR)), .val (.int cp), .val (.int r11), .val (.int r13), .val (.int r15), .val (.int r17), .val (.int r19), .val (.int r21), .val (.int (Int32.ofNat lR)), .val (.int r23), .val (.int r25), .val (.int r27), .val .null, .val (.ref xs95), .val (.ref xs100), .val (.int (0 : Int32)), .unset] []))
                      refine GoW.on (fun t k => XS.iconst Y100.here hx rfl (hb hby at_366) (XS.goto Y100.here hx rfl (pc0 := 367) (pc' := 371) rfl (hb hby at_367) (by decide) (by decide) k)) ?_
                      show GoW p.tables e below s _ _ _ _ _ (T100.setTop (mkF m 371 #[.val (.int p1), .val (.int p2), .val (.int p3), .val (.int p4), .val (.int bT), .val (.int bC), .val (.int (Int32.ofNat lT)), .val (.int (Int32.ofNat lC)), .val (.int nT), .val (.int nC), .val (.int (Int32.ofNat lR)), .val (.int cp), .val (.int r11), .val (.int r13), .val (.int r15), .val (.int r17), .val (.int r19), .val (.int r21), .val (.int (Int32.ofNat lR)), .val (.int r23), .val (.int r25), .val (.int r27), .val .null, .val (.ref xs95), .val (.ref xs100), .val (.int (0 : Int32)), .unset] [(.int (1 : Int32))]))
                      have eJ : own_b ((([r17, r19, r21] : List Int32).take lC) = (([r23, r25, r27] : List Int32).take lR)) = 1 := own_bt ((own_tke hlC hlR).mpr ⟨hc324_107, Or.inr hc337_115, Or.inr hc350_119, Or.inl hc356_120⟩)
                      rw [eJ] at kJ
                      exact kJ
                    · refine GoW.on (fun t k => XS.icmpNo Y100.here hx rfl (hb hby at_356) rfl (flt hc356_120).1 k) ?_
                      show GoW p.tables e below s _ _ _ _ _ (T100.setTop (mkF m 359 #[.val (.int p1), .val (.int p2), .val (.int p3), .val (.int p4), .val (.int bT), .val (.int bC), .val (.int (Int32.ofNat lT)), .val (.int (Int32.ofNat lC)), .val (.int nT), .val (.int nC), .val (.int (Int32.ofNat lR)), .val (.int cp), .val (.int r11), .val (.int r13), .val (.int r15), .val (.int r17), .val (.int r19), .val (.int r21), .val (.int (Int32.ofNat lR)), .val (.int r23), .val (.int r25), .val (.int r27), .val .null, .val (.ref xs95), .val (.ref xs100), .val (.int (0 : Int32)), .unset] []))
                      refine GoW.on (fun t k => XS.iload Y100.here hx rfl (hb hby at_359) rfl (XS.iload Y100.here hx rfl (hb hby at_361) rfl k)) ?_
                      show GoW p.tables e below s _ _ _ _ _ (T100.setTop (mkF m 363 #[.val (.int p1), .val (.int p2), .val (.int p3), .val (.int p4), .val (.int bT), .val (.int bC), .val (.int (Int32.ofNat lT)), .val (.int (Int32.ofNat lC)), .val (.int nT), .val (.int nC), .val (.int (Int32.ofNat lR)), .val (.int cp), .val (.int r11), .val (.int r13), .val (.int r15), .val (.int r17), .val (.int r19), .val (.int r21), .val (.int (Int32.ofNat lR)), .val (.int r23), .val (.int r25), .val (.int r27), .val .null, .val (.ref xs95), .val (.ref xs100), .val (.int (0 : Int32)), .unset] [(.int r27), (.int r21)]))
                      by_cases hc363_121 : r21 = r27
                      · refine GoW.on (fun t k => XS.icmpNo Y100.here hx rfl (hb hby at_363) rfl (teq hc363_121).2 k) ?_
                        show GoW p.tables e below s _ _ _ _ _ (T100.setTop (mkF m 366 #[.val (.int p1), .val (.int p2), .val (.int p3), .val (.int p4), .val (.int bT), .val (.int bC), .val (.int (Int32.ofNat lT)), .val (.int (Int32.ofNat lC)), .val (.int nT), .val (.int nC), .val (.int (Int32.ofNat lR)), .val (.int cp), .val (.int r11), .val (.int r13), .val (.int r15), .val (.int r17), .val (.int r19), .val (.int r21), .val (.int (Int32.ofNat lR)), .val (.int r23), .val (.int r25), .val (.int r27), .val .null, .val (.ref xs95), .val (.ref xs100), .val (.int (0 : Int32)), .unset] []))
                        refine GoW.on (fun t k => XS.iconst Y100.here hx rfl (hb hby at_366) (XS.goto Y100.here hx rfl (pc0 := 367) (pc' := 371) rfl (hb hby at_367) (by decide) (by decide) k)) ?_
                        show GoW p.tables e below s _ _ _ _ _ (T100.setTop (mkF m 371 #[.val (.int p1), .val (.int p2), .val (.int p3), .val (.int p4), .val (.int bT), .val (.int bC), .val (.int (Int32.ofNat lT)), .val (.int (Int32.ofNat lC)), .val (.int nT), .val (.int nC), .val (.int (Int32.ofNat lR)), .val (.int cp), .val (.int r11), .val (.int r13), .val (.int r15), .val (.int r17), .val (.int r19), .val (.int r21), .val (.int (Int32.ofNat lR)), .val (.int r23), .val (.int r25), .val (.int r27), .val .null, .val (.ref xs95), .val (.ref xs100), .val (.int (0 : Int32)), .unset] [(.int (1 : Int32))]))
                        have eJ : own_b ((([r17, r19, r21] : List Int32).take lC) = (([r23, r25, r27] : List Int32).take lR)) = 1 := own_bt ((own_tke hlC hlR).mpr ⟨hc324_107, Or.inr hc337_115, Or.inr hc350_119, Or.inr hc363_121⟩)
                        rw [eJ] at kJ
                        exact kJ
                      · refine GoW.on (fun t k => XS.icmpYes Y100.here hx rfl (pc0 := 363) (pc' := 370) rfl (hb hby at_363) rfl (feq hc363_121).2 (by decide) (by decide) k) ?_
                        show GoW p.tables e below s _ _ _ _ _ (T100.setTop (mkF m 370 #[.val (.int p1), .val (.int p2), .val (.int p3), .val (.int p4), .val (.int bT), .val (.int bC), .val (.int (Int32.ofNat lT)), .val (.int (Int32.ofNat lC)), .val (.int nT), .val (.int nC), .val (.int (Int32.ofNat lR)), .val (.int cp), .val (.int r11), .val (.int r13), .val (.int r15), .val (.int r17), .val (.int r19), .val (.int r21), .val (.int (Int32.ofNat lR)), .val (.int r23), .val (.int r25), .val (.int r27), .val .null, .val (.ref xs95), .val (.ref xs100), .val (.int (0 : Int32)), .unset] []))
                        refine GoW.on (fun t k => XS.iconst Y100.here hx rfl (hb hby at_370) k) ?_
                        show GoW p.tables e below s _ _ _ _ _ (T100.setTop (mkF m 371 #[.val (.int p1), .val (.int p2), .val (.int p3), .val (.int p4), .val (.int bT), .val (.int bC), .val (.int (Int32.ofNat lT)), .val (.int (Int32.ofNat lC)), .val (.int nT), .val (.int nC), .val (.int (Int32.ofNat lR)), .val (.int cp), .val (.int r11), .val (.int r13), .val (.int r15), .val (.int r17), .val (.int r19), .val (.int r21), .val (.int (Int32.ofNat lR)), .val (.int r23), .val (.int r25), .val (.int r27), .val .null, .val (.ref xs95), .val (.ref xs100), .val (.int (0 : Int32)), .unset] [(.int (0 : Int32))]))
                        have eJ : own_b ((([r17, r19, r21] : List Int32).take lC) = (([r23, r25, r27] : List Int32).take lR)) = 0 := own_bf (fun q => ((own_tke hlC hlR).mp q).2.2.2.elim (fun z => hc356_120 z) (fun z => hc363_121 z))
                        rw [eJ] at kJ
                        exact kJ
                  · refine GoW.on (fun t k => XS.icmpYes Y100.here hx rfl (pc0 := 350) (pc' := 370) rfl (hb hby at_350) rfl (feq hc350_119).2 (by decide) (by decide) k) ?_
                    show GoW p.tables e below s _ _ _ _ _ (T100.setTop (mkF m 370 #[.val (.int p1), .val (.int p2), .val (.int p3), .val (.int p4), .val (.int bT), .val (.int bC), .val (.int (Int32.ofNat lT)), .val (.int (Int32.ofNat lC)), .val (.int nT), .val (.int nC), .val (.int (Int32.ofNat lR)), .val (.int cp), .val (.int r11), .val (.int r13), .val (.int r15), .val (.int r17), .val (.int r19), .val (.int r21), .val (.int (Int32.ofNat lR)), .val (.int r23), .val (.int r25), .val (.int r27), .val .null, .val (.ref xs95), .val (.ref xs100), .val (.int (0 : Int32)), .unset] []))
                    refine GoW.on (fun t k => XS.iconst Y100.here hx rfl (hb hby at_370) k) ?_
                    show GoW p.tables e below s _ _ _ _ _ (T100.setTop (mkF m 371 #[.val (.int p1), .val (.int p2), .val (.int p3), .val (.int p4), .val (.int bT), .val (.int bC), .val (.int (Int32.ofNat lT)), .val (.int (Int32.ofNat lC)), .val (.int nT), .val (.int nC), .val (.int (Int32.ofNat lR)), .val (.int cp), .val (.int r11), .val (.int r13), .val (.int r15), .val (.int r17), .val (.int r19), .val (.int r21), .val (.int (Int32.ofNat lR)), .val (.int r23), .val (.int r25), .val (.int r27), .val .null, .val (.ref xs95), .val (.ref xs100), .val (.int (0 : Int32)), .unset] [(.int (0 : Int32))]))
                    have eJ : own_b ((([r17, r19, r21] : List Int32).take lC) = (([r23, r25, r27] : List Int32).take lR)) = 0 := own_bf (fun q => ((own_tke hlC hlR).mp q).2.2.1.elim (fun z => hc343_116 z) (fun z => hc350_119 z))
                    rw [eJ] at kJ
                    exact kJ
              · refine GoW.on (fun t k => XS.icmpYes Y100.here hx rfl (pc0 := 337) (pc' := 370) rfl (hb hby at_337) rfl (feq hc337_115).2 (by decide) (by decide) k) ?_
                show GoW p.tables e below s _ _ _ _ _ (T100.setTop (mkF m 370 #[.val (.int p1), .val (.int p2), .val (.int p3), .val (.int p4), .val (.int bT), .val (.int bC), .val (.int (Int32.ofNat lT)), .val (.int (Int32.ofNat lC)), .val (.int nT), .val (.int nC), .val (.int (Int32.ofNat lR)), .val (.int cp), .val (.int r11), .val (.int r13), .val (.int r15), .val (.int r17), .val (.int r19), .val (.int r21), .val (.int (Int32.ofNat lR)), .val (.int r23), .val (.int r25), .val (.int r27), .val .null, .val (.ref xs95), .val (.ref xs100), .val (.int (0 : Int32)), .unset] []))
                refine GoW.on (fun t k => XS.iconst Y100.here hx rfl (hb hby at_370) k) ?_
                show GoW p.tables e below s _ _ _ _ _ (T100.setTop (mkF m 371 #[.val (.int p1), .val (.int p2), .val (.int p3), .val (.int p4), .val (.int bT), .val (.int bC), .val (.int (Int32.ofNat lT)), .val (.int (Int32.ofNat lC)), .val (.int nT), .val (.int nC), .val (.int (Int32.ofNat lR)), .val (.int cp), .val (.int r11), .val (.int r13), .val (.int r15), .val (.int r17), .val (.int r19), .val (.int r21), .val (.int (Int32.ofNat lR)), .val (.int r23), .val (.int r25), .val (.int r27), .val .null, .val (.ref xs95), .val (.ref xs100), .val (.int (0 : Int32)), .unset] [(.int (0 : Int32))]))
                have eJ : own_b ((([r17, r19, r21] : List Int32).take lC) = (([r23, r25, r27] : List Int32).take lR)) = 0 := own_bf (fun q => ((own_tke hlC hlR).mp q).2.1.elim (fun z => hc330_108 z) (fun z => hc337_115 z))
                rw [eJ] at kJ
                exact kJ
          · refine GoW.on (fun t k => XS.icmpYes Y100.here hx rfl (pc0 := 324) (pc' := 370) rfl (hb hby at_324) rfl (feq hc324_107).2 (by decide) (by decide) k) ?_
            show GoW p.tables e below s _ _ _ _ _ (T100.setTop (mkF m 370 #[.val (.int p1), .val (.int p2), .val (.int p3), .val (.int p4), .val (.int bT), .val (.int bC), .val (.int (Int32.ofNat lT)), .val (.int (Int32.ofNat lC)), .val (.int nT), .val (.int nC), .val (.int (Int32.ofNat lR)), .val (.int cp), .val (.int r11), .val (.int r13), .val (.int r15), .val (.int r17), .val (.int r19), .val (.int r21), .val (.int (Int32.ofNat lR)), .val (.int r23), .val (.int r25), .val (.int r27), .val .null, .val (.ref xs95), .val (.ref xs100), .val (.int (0 : Int32)), .unset] []))
            refine GoW.on (fun t k => XS.iconst Y100.here hx rfl (hb hby at_370) k) ?_
            show GoW p.tables e below s _ _ _ _ _ (T100.setTop (mkF m 371 #[.val (.int p1), .val (.int p2), .val (.int p3), .val (.int p4), .val (.int bT), .val (.int bC), .val (.int (Int32.ofNat lT)), .val (.int (Int32.ofNat lC)), .val (.int nT), .val (.int nC), .val (.int (Int32.ofNat lR)), .val (.int cp), .val (.int r11), .val (.int r13), .val (.int r15), .val (.int r17), .val (.int r19), .val (.int r21), .val (.int (Int32.ofNat lR)), .val (.int r23), .val (.int r25), .val (.int r27), .val .null, .val (.ref xs95), .val (.ref xs100), .val (.int (0 : Int32)), .unset] [(.int (0 : Int32))]))
            have eJ : own_b ((([r17, r19, r21] : List Int32).take lC) = (([r23, r25, r27] : List Int32).take lR)) = 0 := own_bf (fun q => hc324_107 ((own_tke hlC hlR).mp q).1)
            rw [eJ] at kJ
            exact kJ
        refine J106 ?_
        show GoW p.tables e below s _ _ _ _ _ (T100.setTop (mkF m 371 #[.val (.int p1), .val (.int p2), .val (.int p3), .val (.int p4), .val (.int bT), .val (.int bC), .val (.int (Int32.ofNat lT)), .val (.int (Int32.ofNat lC)), .val (.int nT), .val (.int nC), .val (.int (Int32.ofNat lR)), .val (.int cp), .val (.int r11), .val (.int r13), .val (.int r15), .val (.int r17), .val (.int r19), .val (.int r21), .val (.int (Int32.ofNat lR)), .val (.int r23), .val (.int r25), .val (.int r27), .val .null, .val (.ref xs95), .val (.ref xs100), .val (.int (0 : Int32)), .unset] [(.int (own_b ((([r17, r19, r21] : List Int32).take lC) = (([r23, r25, r27] : List Int32).take lR))))]))
        refine GoW.on (fun t k => XS.istore Y100.here hx rfl (hb hby at_371) rfl (l' := #[.val (.int p1), .val (.int p2), .val (.int p3), .val (.int p4), .val (.int bT), .val (.int bC), .val (.int (Int32.ofNat lT)), .val (.int (Int32.ofNat lC)), .val (.int nT), .val (.int nC), .val (.int (Int32.ofNat lR)), .val (.int cp), .val (.int r11), .val (.int r13), .val (.int r15), .val (.int r17), .val (.int r19), .val (.int r21), .val (.int (Int32.ofNat lR)), .val (.int r23), .val (.int r25), .val (.int r27), .val .null, .val (.ref xs95), .val (.ref xs100), .val (.int (0 : Int32)), .val (.int (own_b ((([r17, r19, r21] : List Int32).take lC) = (([r23, r25, r27] : List Int32).take lR))))]) rfl (XS.aload Y100.here hx rfl (hb hby at_373) rfl rfl (XS.aload Y100.here hx rfl (hb hby at_375) rfl rfl (XS.aload Y100.here hx rfl (hb hby at_377) rfl rfl k)))) ?_
        show GoW p.tables e below s _ _ _ _ _ (T100.setTop (mkF m 379 #[.val (.int p1), .val (.int p2), .val (.int p3), .val (.int p4), .val (.int bT), .val (.int bC), .val (.int (Int32.ofNat lT)), .val (.int (Int32.ofNat lC)), .val (.int nT), .val (.int nC), .val (.int (Int32.ofNat lR)), .val (.int cp), .val (.int r11), .val (.int r13), .val (.int r15), .val (.int r17), .val (.int r19), .val (.int r21), .val (.int (Int32.ofNat lR)), .val (.int r23), .val (.int r25), .val (.int r27), .val .null, .val (.ref xs95), .val (.ref xs100), .val (.int (0 : Int32)), .val (.int (own_b ((([r17, r19, r21] : List Int32).take lC) = (([r23, r25, r27] : List Int32).take lR))))] [(.ref xs100), (.ref xs95), .null]))
        obtain ⟨_, _, ⟨T122, L122, k122, n122⟩, -, X122, Sn122, Gr122, ⟨Lc122, hQ122, l122, y122, z122, C122⟩, st122⟩ := callSS Y100 hx (y := (⟨"com/example/rhythmwire/rhythmwire/idc/CommonSegments", "isReport", "(Ljava/lang/String;Ljava/lang/String;Ljava/lang/String;)Z"⟩ : MethodName)) hown100 (mvT hZ100 (hw _ (List.mem_of_getElem? (i := 29) rfl))) (mvT hZ100 (hw _ (List.mem_of_getElem? (i := 30) rfl))) (mvT hZ100 (hw _ (List.mem_of_getElem? (i := 31) rfl))) (mvT hZ100 (hw _ (List.mem_of_getElem? (i := 32) rfl))) (by decide) (backOfSH (W := 0) (rm6nr l Z a0 hw [] xs95 xs100 G1 T100.heap n0 Zp104 Old0_102 O2 P5) hZ100 (hw _ (List.mem_of_getElem? (i := 32) rfl)) (hw _ (List.mem_of_getElem? (i := 31) rfl)) (by decide) (by decide) hEL Ch101.1) (g := (mkF m 379 #[.val (.int p1), .val (.int p2), .val (.int p3), .val (.int p4), .val (.int bT), .val (.int bC), .val (.int (Int32.ofNat lT)), .val (.int (Int32.ofNat lC)), .val (.int nT), .val (.int nC), .val (.int (Int32.ofNat lR)), .val (.int cp), .val (.int r11), .val (.int r13), .val (.int r15), .val (.int r17), .val (.int r19), .val (.int r21), .val (.int (Int32.ofNat lR)), .val (.int r23), .val (.int r25), .val (.int r27), .val .null, .val (.ref xs95), .val (.ref xs100), .val (.int (0 : Int32)), .val (.int (own_b ((([r17, r19, r21] : List Int32).take lC) = (([r23, r25, r27] : List Int32).take lR))))] [(.ref xs100), (.ref xs95), .null])) rfl (by rw [hml]; rfl) (argsL := [.null, (.ref xs95), (.ref xs100)]) (rest := []) (lenOf pd__40_Ljava_47_lang_47_String_59_Ljava_47_lang_47_String_59_Ljava_47_lang_47_String_59__41_Z rfl) rfl (by show 2 * 0 + _ ≤ _; exact Nat.le_of_eq rfl) (hb hby at_379) (fun _ _ => ⟨rfl, rfl, (by decide : (((((((((((0 + 0) + 0) + 0) + 0) + 0) + 0) + 0) + 0) + 0) + 6) + 6) + 2 ≤ _), (by decide : (((((((((((0 + 0) + 0) + 0) + 0) + 0) + 0) + 0) + 0) + 0) + 12) + 12) + 12 ≤ _)⟩)
        dsimp only [Pt.U, Pt.locs, Pt.cells, Pt.slots] at X122 l122 y122 z122 st122 hQ122 Sn122 Gr122 C122
        rw [l122, y122, z122] at X122
        obtain ⟨Y122, hS122, hZ122, hown122⟩ := rebS hS100 (Nat.le_refl _) X122 Sn122 Gr122 hZ100 hown100
        obtain ⟨rfl, Nq122, Kq122⟩ := hQ122
        have Ch123 := Ch101.trans C122
        have Old0_124 := Old0_102.keep Kq122 all0
        have P95_125 := P95_103.keep0 Kq122
        have P100_126 := P100_0.keep0 Kq122
        have Zp127 := Nat.le_trans Zp104 Kq122.1
        have Np128 := Fr.app Np105 Nq122
        refine GoW.via st122 ?_
        show GoW p.tables e below s _ _ _ _ _ (T122.setTop (mkF m 382 #[.val (.int p1), .val (.int p2), .val (.int p3), .val (.int p4), .val (.int bT), .val (.int bC), .val (.int (Int32.ofNat lT)), .val (.int (Int32.ofNat lC)), .val (.int nT), .val (.int nC), .val (.int (Int32.ofNat lR)), .val (.int cp), .val (.int r11), .val (.int r13), .val (.int r15), .val (.int r17), .val (.int r19), .val (.int r21), .val (.int (Int32.ofNat lR)), .val (.int r23), .val (.int r25), .val (.int r27), .val .null, .val (.ref xs95), .val (.ref xs100), .val (.int (0 : Int32)), .val (.int (own_b ((([r17, r19, r21] : List Int32).take lC) = (([r23, r25, r27] : List Int32).take lR))))] [(.int (0 : Int32))]))
        refine GoW.on (fun t k => XS.iload Y122.here hx rfl (hb hby at_382) rfl k) ?_
        show GoW p.tables e below s _ _ _ _ _ (T122.setTop (mkF m 384 #[.val (.int p1), .val (.int p2), .val (.int p3), .val (.int p4), .val (.int bT), .val (.int bC), .val (.int (Int32.ofNat lT)), .val (.int (Int32.ofNat lC)), .val (.int nT), .val (.int nC), .val (.int (Int32.ofNat lR)), .val (.int cp), .val (.int r11), .val (.int r13), .val (.int r15), .val (.int r17), .val (.int r19), .val (.int r21), .val (.int (Int32.ofNat lR)), .val (.int r23), .val (.int r25), .val (.int r27), .val .null, .val (.ref xs95), .val (.ref xs100), .val (.int (0 : Int32)), .val (.int (own_b ((([r17, r19, r21] : List Int32).take lC) = (([r23, r25, r27] : List Int32).take lR))))] [(.int (0 : Int32)), (.int (0 : Int32))]))
        refine GoW.on (fun t k => XS.ifYes Y122.here hx rfl (pc0 := 384) (pc' := 396) rfl (hb hby at_384) rfl ((if0 _ _).trans (teq (by decide : (0 : Int32) = (0 : Int32))).1) (by decide) (by decide) k) ?_
        show GoW p.tables e below s _ _ _ _ _ (T122.setTop (mkF m 396 #[.val (.int p1), .val (.int p2), .val (.int p3), .val (.int p4), .val (.int bT), .val (.int bC), .val (.int (Int32.ofNat lT)), .val (.int (Int32.ofNat lC)), .val (.int nT), .val (.int nC), .val (.int (Int32.ofNat lR)), .val (.int cp), .val (.int r11), .val (.int r13), .val (.int r15), .val (.int r17), .val (.int r19), .val (.int r21), .val (.int (Int32.ofNat lR)), .val (.int r23), .val (.int r25), .val (.int r27), .val .null, .val (.ref xs95), .val (.ref xs100), .val (.int (0 : Int32)), .val (.int (own_b ((([r17, r19, r21] : List Int32).take lC) = (([r23, r25, r27] : List Int32).take lR))))] [(.int (0 : Int32))]))
        refine GoW.on (fun t k => XS.iconst Y122.here hx rfl (hb hby at_396) k) ?_
        show GoW p.tables e below s _ _ _ _ _ (T122.setTop (mkF m 397 #[.val (.int p1), .val (.int p2), .val (.int p3), .val (.int p4), .val (.int bT), .val (.int bC), .val (.int (Int32.ofNat lT)), .val (.int (Int32.ofNat lC)), .val (.int nT), .val (.int nC), .val (.int (Int32.ofNat lR)), .val (.int cp), .val (.int r11), .val (.int r13), .val (.int r15), .val (.int r17), .val (.int r19), .val (.int r21), .val (.int (Int32.ofNat lR)), .val (.int r23), .val (.int r25), .val (.int r27), .val .null, .val (.ref xs95), .val (.ref xs100), .val (.int (0 : Int32)), .val (.int (own_b ((([r17, r19, r21] : List Int32).take lC) = (([r23, r25, r27] : List Int32).take lR))))] [(.int (0 : Int32)), (.int (0 : Int32))]))
        refine GoW.on (fun t k => XS.icmpNo Y122.here hx rfl (hb hby at_397) rfl (teq (by decide : (0 : Int32) = (0 : Int32))).2 k) ?_
        show GoW p.tables e below s _ _ _ _ _ (T122.setTop (mkF m 400 #[.val (.int p1), .val (.int p2), .val (.int p3), .val (.int p4), .val (.int bT), .val (.int bC), .val (.int (Int32.ofNat lT)), .val (.int (Int32.ofNat lC)), .val (.int nT), .val (.int nC), .val (.int (Int32.ofNat lR)), .val (.int cp), .val (.int r11), .val (.int r13), .val (.int r15), .val (.int r17), .val (.int r19), .val (.int r21), .val (.int (Int32.ofNat lR)), .val (.int r23), .val (.int r25), .val (.int r27), .val .null, .val (.ref xs95), .val (.ref xs100), .val (.int (0 : Int32)), .val (.int (own_b ((([r17, r19, r21] : List Int32).take lC) = (([r23, r25, r27] : List Int32).take lR))))] []))
        refine GoW.on (fun t k => XS.iconst Y122.here hx rfl (hb hby at_400) (XS.goto Y122.here hx rfl (pc0 := 401) (pc' := 405) rfl (hb hby at_401) (by decide) (by decide) k)) ?_
        show GoW p.tables e below s _ _ _ _ _ (T122.setTop (mkF m 405 #[.val (.int p1), .val (.int p2), .val (.int p3), .val (.int p4), .val (.int bT), .val (.int bC), .val (.int (Int32.ofNat lT)), .val (.int (Int32.ofNat lC)), .val (.int nT), .val (.int nC), .val (.int (Int32.ofNat lR)), .val (.int cp), .val (.int r11), .val (.int r13), .val (.int r15), .val (.int r17), .val (.int r19), .val (.int r21), .val (.int (Int32.ofNat lR)), .val (.int r23), .val (.int r25), .val (.int r27), .val .null, .val (.ref xs95), .val (.ref xs100), .val (.int (0 : Int32)), .val (.int (own_b ((([r17, r19, r21] : List Int32).take lC) = (([r23, r25, r27] : List Int32).take lR))))] [(.int (1 : Int32))]))
        refine GoW.retN Y122 hx hlk hZ122 hS122 (Nat.le_refl _) hEL Ch123 (t := .boolean) Bd.returns (by simp) (hb hby at_405) (by decide) (by decide) rfl ?_
        exact ⟨rfl, Np128⟩
      · refine GoW.on (fun t k => XS.ifNo X27.here hx rfl (hb hby at_250) rfl ((if0 _ _).trans (feq hnC).1) k) ?_
        show GoW p.tables e below s _ _ _ _ _ (T27.setTop (mkF m 253 #[.val (.int p1), .val (.int p2), .val (.int p3), .val (.int p4), .val (.int bT), .val (.int bC), .val (.int (Int32.ofNat lT)), .val (.int (Int32.ofNat lC)), .val (.int nT), .val (.int nC), .val (.int (Int32.ofNat lR)), .val (.int cp), .val (.int r11), .val (.int r13), .val (.int r15), .val (.int r17), .val (.int r19), .val (.int r21), .val (.int (Int32.ofNat lR)), .val (.int r23), .val (.int r25), .val (.int r27), .val .null, .unset, .unset, .unset, .unset] []))
        refine GoW.on (fun t k => XS.aconstNull X27.here hx rfl (hb hby at_253) (XS.goto X27.here hx rfl (pc0 := 254) (pc' := 268) rfl (hb hby at_254) (by decide) (by decide) (XS.astore X27.here hx rfl (hb hby at_268) rfl rfl (l' := #[.val (.int p1), .val (.int p2), .val (.int p3), .val (.int p4), .val (.int bT), .val (.int bC), .val (.int (Int32.ofNat lT)), .val (.int (Int32.ofNat lC)), .val (.int nT), .val (.int nC), .val (.int (Int32.ofNat lR)), .val (.int cp), .val (.int r11), .val (.int r13), .val (.int r15), .val (.int r17), .val (.int r19), .val (.int r21), .val (.int (Int32.ofNat lR)), .val (.int r23), .val (.int r25), .val (.int r27), .val .null, .val .null, .unset, .unset, .unset]) rfl (XS.iload X27.here hx rfl (hb hby at_270) rfl (XS.iload X27.here hx rfl (hb hby at_272) rfl (XS.iload X27.here hx rfl (hb hby at_274) rfl (XS.iload X27.here hx rfl (hb hby at_276) rfl k))))))) ?_
        show GoW p.tables e below s _ _ _ _ _ (T27.setTop (mkF m 278 #[.val (.int p1), .val (.int p2), .val (.int p3), .val (.int p4), .val (.int bT), .val (.int bC), .val (.int (Int32.ofNat lT)), .val (.int (Int32.ofNat lC)), .val (.int nT), .val (.int nC), .val (.int (Int32.ofNat lR)), .val (.int cp), .val (.int r11), .val (.int r13), .val (.int r15), .val (.int r17), .val (.int r19), .val (.int r21), .val (.int (Int32.ofNat lR)), .val (.int r23), .val (.int r25), .val (.int r27), .val .null, .val .null, .unset, .unset, .unset] [(.int r27), (.int r25), (.int r23), (.int (Int32.ofNat lR))]))
        obtain ⟨_, _, ⟨T129, L129, k129, n129⟩, -, X129, Sn129, Gr129, ⟨Lc129, hQ129, l129, y129, z129, C129⟩, st129⟩ := callSS X27 hx (y := (⟨"com/example/rhythmwire/rhythmwire/idc/CommonSegmentsIsReportPinLaw", "str", "(ICCC)Ljava/lang/String;"⟩ : MethodName)) hown (mvT hZ (hw _ (List.mem_of_getElem? (i := 4) rfl))) (mvT hZ (hw _ (List.mem_of_getElem? (i := 5) rfl))) (mvT hZ (hw _ (List.mem_of_getElem? (i := 2) rfl))) (mvT hZ (hw _ (List.mem_of_getElem? (i := 6) rfl))) (by decide) (backOfSH (W := 0) (rm2 l Z a0 hw [] (Int32.ofNat lR) r23 r25 r27 G1 lR h0 n0 Z0 Old0 O2 P5 rfl hlR P23_0 P25_0 P27_0) hZ (hw _ (List.mem_of_getElem? (i := 6) rfl)) (hw _ (List.mem_of_getElem? (i := 2) rfl)) (by decide) (by decide) hEL Ch0.1) (g := (mkF m 278 #[.val (.int p1), .val (.int p2), .val (.int p3), .val (.int p4), .val (.int bT), .val (.int bC), .val (.int (Int32.ofNat lT)), .val (.int (Int32.ofNat lC)), .val (.int nT), .val (.int nC), .val (.int (Int32.ofNat lR)), .val (.int cp), .val (.int r11), .val (.int r13), .val (.int r15), .val (.int r17), .val (.int r19), .val (.int r21), .val (.int (Int32.ofNat lR)), .val (.int r23), .val (.int r25), .val (.int r27), .val .null, .val .null, .unset, .unset, .unset] [(.int r27), (.int r25), (.int r23), (.int (Int32.ofNat lR))])) rfl (by rw [hml]; rfl) (argsL := [(.int (Int32.ofNat lR)), (.int r23), (.int r25), (.int r27)]) (rest := []) (lenOf pd__40_ICCC_41_Ljava_47_lang_47_String_59_ rfl) rfl (by show 2 * 0 + _ ≤ _; exact Nat.le_of_eq rfl) (hb hby at_278) (fun _ _ => ⟨rfl, e27, (by decide : (((((((((0 + 0) + 0) + 0) + 0) + 0) + 0) + 0) + 0) + 0) + 6 ≤ _), (by decide : (((((((((0 + 0) + 0) + 0) + 0) + 0) + 0) + 0) + 0) + 0) + 12 ≤ _)⟩)
        dsimp only [Pt.U, Pt.locs, Pt.cells, Pt.slots] at X129 l129 y129 z129 st129 hQ129 Sn129 Gr129 C129
        rw [l129, y129, z129] at X129
        obtain ⟨Y129, hS129, hZ129, hown129⟩ := rebS hS0 (Nat.le_trans hk0 (Nat.le_of_eq (congrArg Array.size e27.symm))) X129 Sn129 Gr129 hZ hown
        obtain ⟨xs129, rfl, Nq129, Kq129, P129_0⟩ := hQ129
        have Ch130 := Ch0.trans C129
        have Old0_131 := Old0.keep Kq129 all0
        have Zp132 := Nat.le_trans Z0 Kq129.1
        have Np133 := Fr.app Np28 Nq129
        refine GoW.via st129 ?_
        show GoW p.tables e below s _ _ _ _ _ (T129.setTop (mkF m 281 #[.val (.int p1), .val (.int p2), .val (.int p3), .val (.int p4), .val (.int bT), .val (.int bC), .val (.int (Int32.ofNat lT)), .val (.int (Int32.ofNat lC)), .val (.int nT), .val (.int nC), .val (.int (Int32.ofNat lR)), .val (.int cp), .val (.int r11), .val (.int r13), .val (.int r15), .val (.int r17), .val (.int r19), .val (.int r21), .val (.int (Int32.ofNat lR)), .val (.int r23), .val (.int r25), .val (.int r27), .val .null, .val .null, .unset, .unset, .unset] [(.ref xs129)]))
        refine GoW.on (fun t k => XS.astore Y129.here hx rfl (hb hby at_281) rfl rfl (l' := #[.val (.int p1), .val (.int p2), .val (.int p3), .val (.int p4), .val (.int bT), .val (.int bC), .val (.int (Int32.ofNat lT)), .val (.int (Int32.ofNat lC)), .val (.int nT), .val (.int nC), .val (.int (Int32.ofNat lR)), .val (.int cp), .val (.int r11), .val (.int r13), .val (.int r15), .val (.int r17), .val (.int r19), .val (.int r21), .val (.int (Int32.ofNat lR)), .val (.int r23), .val (.int r25), .val (.int r27), .val .null, .val .null, .val (.ref xs129), .unset, .unset]) rfl (XS.iload Y129.here hx rfl (hb hby at_283) rfl k)) ?_
        show GoW p.tables e below s _ _ _ _ _ (T129.setTop (mkF m 285 #[.val (.int p1), .val (.int p2), .val (.int p3), .val (.int p4), .val (.int bT), .val (.int bC), .val (.int (Int32.ofNat lT)), .val (.int (Int32.ofNat lC)), .val (.int nT), .val (.int nC), .val (.int (Int32.ofNat lR)), .val (.int cp), .val (.int r11), .val (.int r13), .val (.int r15), .val (.int r17), .val (.int r19), .val (.int r21), .val (.int (Int32.ofNat lR)), .val (.int r23), .val (.int r25), .val (.int r27), .val .null, .val .null, .val (.ref xs129), .unset, .unset] [(.int nT)]))
        refine GoW.on (fun t k => XS.ifYes Y129.here hx rfl (pc0 := 285) (pc' := 312) rfl (hb hby at_285) rfl ((if0 _ _).trans (feq hnT).2) (by decide) (by decide) k) ?_
        show GoW p.tables e below s _ _ _ _ _ (T129.setTop (mkF m 312 #[.val (.int p1), .val (.int p2), .val (.int p3), .val (.int p4), .val (.int bT), .val (.int bC), .val (.int (Int32.ofNat lT)), .val (.int (Int32.ofNat lC)), .val (.int nT), .val (.int nC), .val (.int (Int32.ofNat lR)), .val (.int cp), .val (.int r11), .val (.int r13), .val (.int r15), .val (.int r17), .val (.int r19), .val (.int r21), .val (.int (Int32.ofNat lR)), .val (.int r23), .val (.int r25), .val (.int r27), .val .null, .val .null, .val (.ref xs129), .unset, .unset] []))
        refine GoW.on (fun t k => XS.iconst Y129.here hx rfl (hb hby at_312) (XS.istore Y129.here hx rfl (hb hby at_313) rfl (l' := #[.val (.int p1), .val (.int p2), .val (.int p3), .val (.int p4), .val (.int bT), .val (.int bC), .val (.int (Int32.ofNat lT)), .val (.int (Int32.ofNat lC)), .val (.int nT), .val (.int nC), .val (.int (Int32.ofNat lR)), .val (.int cp), .val (.int r11), .val (.int r13), .val (.int r15), .val (.int r17), .val (.int r19), .val (.int r21), .val (.int (Int32.ofNat lR)), .val (.int r23), .val (.int r25), .val (.int r27), .val .null, .val .null, .val (.ref xs129), .val (.int (0 : Int32)), .unset]) rfl (XS.iload Y129.here hx rfl (hb hby at_315) rfl k))) ?_
        show GoW p.tables e below s _ _ _ _ _ (T129.setTop (mkF m 317 #[.val (.int p1), .val (.int p2), .val (.int p3), .val (.int p4), .val (.int bT), .val (.int bC), .val (.int (Int32.ofNat lT)), .val (.int (Int32.ofNat lC)), .val (.int nT), .val (.int nC), .val (.int (Int32.ofNat lR)), .val (.int cp), .val (.int r11), .val (.int r13), .val (.int r15), .val (.int r17), .val (.int r19), .val (.int r21), .val (.int (Int32.ofNat lR)), .val (.int r23), .val (.int r25), .val (.int r27), .val .null, .val .null, .val (.ref xs129), .val (.int (0 : Int32)), .unset] [(.int nC)]))
        refine GoW.on (fun t k => XS.ifYes Y129.here hx rfl (pc0 := 317) (pc' := 370) rfl (hb hby at_317) rfl ((if0 _ _).trans (feq hnC).2) (by decide) (by decide) k) ?_
        show GoW p.tables e below s _ _ _ _ _ (T129.setTop (mkF m 370 #[.val (.int p1), .val (.int p2), .val (.int p3), .val (.int p4), .val (.int bT), .val (.int bC), .val (.int (Int32.ofNat lT)), .val (.int (Int32.ofNat lC)), .val (.int nT), .val (.int nC), .val (.int (Int32.ofNat lR)), .val (.int cp), .val (.int r11), .val (.int r13), .val (.int r15), .val (.int r17), .val (.int r19), .val (.int r21), .val (.int (Int32.ofNat lR)), .val (.int r23), .val (.int r25), .val (.int r27), .val .null, .val .null, .val (.ref xs129), .val (.int (0 : Int32)), .unset] []))
        refine GoW.on (fun t k => XS.iconst Y129.here hx rfl (hb hby at_370) (XS.istore Y129.here hx rfl (hb hby at_371) rfl (l' := #[.val (.int p1), .val (.int p2), .val (.int p3), .val (.int p4), .val (.int bT), .val (.int bC), .val (.int (Int32.ofNat lT)), .val (.int (Int32.ofNat lC)), .val (.int nT), .val (.int nC), .val (.int (Int32.ofNat lR)), .val (.int cp), .val (.int r11), .val (.int r13), .val (.int r15), .val (.int r17), .val (.int r19), .val (.int r21), .val (.int (Int32.ofNat lR)), .val (.int r23), .val (.int r25), .val (.int r27), .val .null, .val .null, .val (.ref xs129), .val (.int (0 : Int32)), .val (.int (0 : Int32))]) rfl (XS.aload Y129.here hx rfl (hb hby at_373) rfl rfl (XS.aload Y129.here hx rfl (hb hby at_375) rfl rfl (XS.aload Y129.here hx rfl (hb hby at_377) rfl rfl k))))) ?_
        show GoW p.tables e below s _ _ _ _ _ (T129.setTop (mkF m 379 #[.val (.int p1), .val (.int p2), .val (.int p3), .val (.int p4), .val (.int bT), .val (.int bC), .val (.int (Int32.ofNat lT)), .val (.int (Int32.ofNat lC)), .val (.int nT), .val (.int nC), .val (.int (Int32.ofNat lR)), .val (.int cp), .val (.int r11), .val (.int r13), .val (.int r15), .val (.int r17), .val (.int r19), .val (.int r21), .val (.int (Int32.ofNat lR)), .val (.int r23), .val (.int r25), .val (.int r27), .val .null, .val .null, .val (.ref xs129), .val (.int (0 : Int32)), .val (.int (0 : Int32))] [(.ref xs129), .null, .null]))
        obtain ⟨_, _, ⟨T134, L134, k134, n134⟩, -, X134, Sn134, Gr134, ⟨Lc134, hQ134, l134, y134, z134, C134⟩, st134⟩ := callSS Y129 hx (y := (⟨"com/example/rhythmwire/rhythmwire/idc/CommonSegments", "isReport", "(Ljava/lang/String;Ljava/lang/String;Ljava/lang/String;)Z"⟩ : MethodName)) hown129 (mvT hZ129 (hw _ (List.mem_of_getElem? (i := 29) rfl))) (mvT hZ129 (hw _ (List.mem_of_getElem? (i := 30) rfl))) (mvT hZ129 (hw _ (List.mem_of_getElem? (i := 31) rfl))) (mvT hZ129 (hw _ (List.mem_of_getElem? (i := 32) rfl))) (by decide) (backOfSH (W := 0) (rm6nn l Z a0 hw [] xs129 G1 T129.heap n0 Zp132 Old0_131 O2 P5) hZ129 (hw _ (List.mem_of_getElem? (i := 32) rfl)) (hw _ (List.mem_of_getElem? (i := 31) rfl)) (by decide) (by decide) hEL Ch130.1) (g := (mkF m 379 #[.val (.int p1), .val (.int p2), .val (.int p3), .val (.int p4), .val (.int bT), .val (.int bC), .val (.int (Int32.ofNat lT)), .val (.int (Int32.ofNat lC)), .val (.int nT), .val (.int nC), .val (.int (Int32.ofNat lR)), .val (.int cp), .val (.int r11), .val (.int r13), .val (.int r15), .val (.int r17), .val (.int r19), .val (.int r21), .val (.int (Int32.ofNat lR)), .val (.int r23), .val (.int r25), .val (.int r27), .val .null, .val .null, .val (.ref xs129), .val (.int (0 : Int32)), .val (.int (0 : Int32))] [(.ref xs129), .null, .null])) rfl (by rw [hml]; rfl) (argsL := [.null, .null, (.ref xs129)]) (rest := []) (lenOf pd__40_Ljava_47_lang_47_String_59_Ljava_47_lang_47_String_59_Ljava_47_lang_47_String_59__41_Z rfl) rfl (by show 2 * 0 + _ ≤ _; exact Nat.le_of_eq rfl) (hb hby at_379) (fun _ _ => ⟨rfl, rfl, (by decide : ((((((((((0 + 0) + 0) + 0) + 0) + 0) + 0) + 0) + 0) + 0) + 6) + 2 ≤ _), (by decide : ((((((((((0 + 0) + 0) + 0) + 0) + 0) + 0) + 0) + 0) + 0) + 12) + 12 ≤ _)⟩)
        dsimp only [Pt.U, Pt.locs, Pt.cells, Pt.slots] at X134 l134 y134 z134 st134 hQ134 Sn134 Gr134 C134
        rw [l134, y134, z134] at X134
        obtain ⟨Y134, hS134, hZ134, hown134⟩ := rebS hS129 (Nat.le_refl _) X134 Sn134 Gr134 hZ129 hown129
        obtain ⟨rfl, Nq134, Kq134⟩ := hQ134
        have Ch135 := Ch130.trans C134
        have Old0_136 := Old0_131.keep Kq134 all0
        have P129_137 := P129_0.keep0 Kq134
        have Zp138 := Nat.le_trans Zp132 Kq134.1
        have Np139 := Fr.app Np133 Nq134
        refine GoW.via st134 ?_
        show GoW p.tables e below s _ _ _ _ _ (T134.setTop (mkF m 382 #[.val (.int p1), .val (.int p2), .val (.int p3), .val (.int p4), .val (.int bT), .val (.int bC), .val (.int (Int32.ofNat lT)), .val (.int (Int32.ofNat lC)), .val (.int nT), .val (.int nC), .val (.int (Int32.ofNat lR)), .val (.int cp), .val (.int r11), .val (.int r13), .val (.int r15), .val (.int r17), .val (.int r19), .val (.int r21), .val (.int (Int32.ofNat lR)), .val (.int r23), .val (.int r25), .val (.int r27), .val .null, .val .null, .val (.ref xs129), .val (.int (0 : Int32)), .val (.int (0 : Int32))] [(.int (0 : Int32))]))
        refine GoW.on (fun t k => XS.iload Y134.here hx rfl (hb hby at_382) rfl k) ?_
        show GoW p.tables e below s _ _ _ _ _ (T134.setTop (mkF m 384 #[.val (.int p1), .val (.int p2), .val (.int p3), .val (.int p4), .val (.int bT), .val (.int bC), .val (.int (Int32.ofNat lT)), .val (.int (Int32.ofNat lC)), .val (.int nT), .val (.int nC), .val (.int (Int32.ofNat lR)), .val (.int cp), .val (.int r11), .val (.int r13), .val (.int r15), .val (.int r17), .val (.int r19), .val (.int r21), .val (.int (Int32.ofNat lR)), .val (.int r23), .val (.int r25), .val (.int r27), .val .null, .val .null, .val (.ref xs129), .val (.int (0 : Int32)), .val (.int (0 : Int32))] [(.int (0 : Int32)), (.int (0 : Int32))]))
        refine GoW.on (fun t k => XS.ifYes Y134.here hx rfl (pc0 := 384) (pc' := 396) rfl (hb hby at_384) rfl ((if0 _ _).trans (teq (by decide : (0 : Int32) = (0 : Int32))).1) (by decide) (by decide) k) ?_
        show GoW p.tables e below s _ _ _ _ _ (T134.setTop (mkF m 396 #[.val (.int p1), .val (.int p2), .val (.int p3), .val (.int p4), .val (.int bT), .val (.int bC), .val (.int (Int32.ofNat lT)), .val (.int (Int32.ofNat lC)), .val (.int nT), .val (.int nC), .val (.int (Int32.ofNat lR)), .val (.int cp), .val (.int r11), .val (.int r13), .val (.int r15), .val (.int r17), .val (.int r19), .val (.int r21), .val (.int (Int32.ofNat lR)), .val (.int r23), .val (.int r25), .val (.int r27), .val .null, .val .null, .val (.ref xs129), .val (.int (0 : Int32)), .val (.int (0 : Int32))] [(.int (0 : Int32))]))
        refine GoW.on (fun t k => XS.iconst Y134.here hx rfl (hb hby at_396) k) ?_
        show GoW p.tables e below s _ _ _ _ _ (T134.setTop (mkF m 397 #[.val (.int p1), .val (.int p2), .val (.int p3), .val (.int p4), .val (.int bT), .val (.int bC), .val (.int (Int32.ofNat lT)), .val (.int (Int32.ofNat lC)), .val (.int nT), .val (.int nC), .val (.int (Int32.ofNat lR)), .val (.int cp), .val (.int r11), .val (.int r13), .val (.int r15), .val (.int r17), .val (.int r19), .val (.int r21), .val (.int (Int32.ofNat lR)), .val (.int r23), .val (.int r25), .val (.int r27), .val .null, .val .null, .val (.ref xs129), .val (.int (0 : Int32)), .val (.int (0 : Int32))] [(.int (0 : Int32)), (.int (0 : Int32))]))
        refine GoW.on (fun t k => XS.icmpNo Y134.here hx rfl (hb hby at_397) rfl (teq (by decide : (0 : Int32) = (0 : Int32))).2 k) ?_
        show GoW p.tables e below s _ _ _ _ _ (T134.setTop (mkF m 400 #[.val (.int p1), .val (.int p2), .val (.int p3), .val (.int p4), .val (.int bT), .val (.int bC), .val (.int (Int32.ofNat lT)), .val (.int (Int32.ofNat lC)), .val (.int nT), .val (.int nC), .val (.int (Int32.ofNat lR)), .val (.int cp), .val (.int r11), .val (.int r13), .val (.int r15), .val (.int r17), .val (.int r19), .val (.int r21), .val (.int (Int32.ofNat lR)), .val (.int r23), .val (.int r25), .val (.int r27), .val .null, .val .null, .val (.ref xs129), .val (.int (0 : Int32)), .val (.int (0 : Int32))] []))
        refine GoW.on (fun t k => XS.iconst Y134.here hx rfl (hb hby at_400) (XS.goto Y134.here hx rfl (pc0 := 401) (pc' := 405) rfl (hb hby at_401) (by decide) (by decide) k)) ?_
        show GoW p.tables e below s _ _ _ _ _ (T134.setTop (mkF m 405 #[.val (.int p1), .val (.int p2), .val (.int p3), .val (.int p4), .val (.int bT), .val (.int bC), .val (.int (Int32.ofNat lT)), .val (.int (Int32.ofNat lC)), .val (.int nT), .val (.int nC), .val (.int (Int32.ofNat lR)), .val (.int cp), .val (.int r11), .val (.int r13), .val (.int r15), .val (.int r17), .val (.int r19), .val (.int r21), .val (.int (Int32.ofNat lR)), .val (.int r23), .val (.int r25), .val (.int r27), .val .null, .val .null, .val (.ref xs129), .val (.int (0 : Int32)), .val (.int (0 : Int32))] [(.int (1 : Int32))]))
        refine GoW.retN Y134 hx hlk hZ134 hS134 (Nat.le_refl _) hEL Ch135 (t := .boolean) Bd.returns (by simp) (hb hby at_405) (by decide) (by decide) rfl ?_
        exact ⟨rfl, Np139⟩
  · refine GoW.on (fun t k => XS.ifNo X21.here hx rfl (hb hby at_154) rfl ((if0 _ _).trans (feq hcp).1) k) ?_
    show GoW p.tables e below s _ _ _ _ _ (T21.setTop (mkF m 157 #[.val (.int p1), .val (.int p2), .val (.int p3), .val (.int p4), .val (.int bT), .val (.int bC), .val (.int (Int32.ofNat lT)), .val (.int (Int32.ofNat lC)), .val (.int nT), .val (.int nC), .val (.int (Int32.ofNat lR)), .val (.int cp), .val (.int r11), .val (.int r13), .val (.int r15), .val (.int r17), .val (.int r19), .val (.int r21), .unset, .unset, .unset, .unset, .unset, .unset, .unset, .unset, .unset] []))
    refine GoW.on (fun t k => XS.iload X21.here hx rfl (hb hby at_157) rfl (XS.goto X21.here hx rfl (pc0 := 159) (pc' := 164) rfl (hb hby at_159) (by decide) (by decide) (XS.istore X21.here hx rfl (hb hby at_164) rfl (l' := #[.val (.int p1), .val (.int p2), .val (.int p3), .val (.int p4), .val (.int bT), .val (.int bC), .val (.int (Int32.ofNat lT)), .val (.int (Int32.ofNat lC)), .val (.int nT), .val (.int nC), .val (.int (Int32.ofNat lR)), .val (.int cp), .val (.int r11), .val (.int r13), .val (.int r15), .val (.int r17), .val (.int r19), .val (.int r21), .val (.int (Int32.ofNat lC)), .unset, .unset, .unset, .unset, .unset, .unset, .unset, .unset]) rfl (XS.iload X21.here hx rfl (hb hby at_166) rfl k)))) ?_
    show GoW p.tables e below s _ _ _ _ _ (T21.setTop (mkF m 168 #[.val (.int p1), .val (.int p2), .val (.int p3), .val (.int p4), .val (.int bT), .val (.int bC), .val (.int (Int32.ofNat lT)), .val (.int (Int32.ofNat lC)), .val (.int nT), .val (.int nC), .val (.int (Int32.ofNat lR)), .val (.int cp), .val (.int r11), .val (.int r13), .val (.int r15), .val (.int r17), .val (.int r19), .val (.int r21), .val (.int (Int32.ofNat lC)), .unset, .unset, .unset, .unset, .unset, .unset, .unset, .unset] [(.int cp)]))
    refine GoW.on (fun t k => XS.ifNo X21.here hx rfl (hb hby at_168) rfl ((if0 _ _).trans (feq hcp).1) k) ?_
    show GoW p.tables e below s _ _ _ _ _ (T21.setTop (mkF m 171 #[.val (.int p1), .val (.int p2), .val (.int p3), .val (.int p4), .val (.int bT), .val (.int bC), .val (.int (Int32.ofNat lT)), .val (.int (Int32.ofNat lC)), .val (.int nT), .val (.int nC), .val (.int (Int32.ofNat lR)), .val (.int cp), .val (.int r11), .val (.int r13), .val (.int r15), .val (.int r17), .val (.int r19), .val (.int r21), .val (.int (Int32.ofNat lC)), .unset, .unset, .unset, .unset, .unset, .unset, .unset, .unset] []))
    refine GoW.on (fun t k => XS.iload X21.here hx rfl (hb hby at_171) rfl (XS.goto X21.here hx rfl (pc0 := 173) (pc' := 182) rfl (hb hby at_173) (by decide) (by decide) (XS.istore X21.here hx rfl (hb hby at_182) rfl (l' := #[.val (.int p1), .val (.int p2), .val (.int p3), .val (.int p4), .val (.int bT), .val (.int bC), .val (.int (Int32.ofNat lT)), .val (.int (Int32.ofNat lC)), .val (.int nT), .val (.int nC), .val (.int (Int32.ofNat lR)), .val (.int cp), .val (.int r11), .val (.int r13), .val (.int r15), .val (.int r17), .val (.int r19), .val (.int r21), .val (.int (Int32.ofNat lC)), .val (.int r17), .unset, .unset, .unset, .unset, .unset, .unset, .unset]) rfl (XS.iload X21.here hx rfl (hb hby at_184) rfl k)))) ?_
    show GoW p.tables e below s _ _ _ _ _ (T21.setTop (mkF m 186 #[.val (.int p1), .val (.int p2), .val (.int p3), .val (.int p4), .val (.int bT), .val (.int bC), .val (.int (Int32.ofNat lT)), .val (.int (Int32.ofNat lC)), .val (.int nT), .val (.int nC), .val (.int (Int32.ofNat lR)), .val (.int cp), .val (.int r11), .val (.int r13), .val (.int r15), .val (.int r17), .val (.int r19), .val (.int r21), .val (.int (Int32.ofNat lC)), .val (.int r17), .unset, .unset, .unset, .unset, .unset, .unset, .unset] [(.int cp)]))
    refine GoW.on (fun t k => XS.ifNo X21.here hx rfl (hb hby at_186) rfl ((if0 _ _).trans (feq hcp).1) k) ?_
    show GoW p.tables e below s _ _ _ _ _ (T21.setTop (mkF m 189 #[.val (.int p1), .val (.int p2), .val (.int p3), .val (.int p4), .val (.int bT), .val (.int bC), .val (.int (Int32.ofNat lT)), .val (.int (Int32.ofNat lC)), .val (.int nT), .val (.int nC), .val (.int (Int32.ofNat lR)), .val (.int cp), .val (.int r11), .val (.int r13), .val (.int r15), .val (.int r17), .val (.int r19), .val (.int r21), .val (.int (Int32.ofNat lC)), .val (.int r17), .unset, .unset, .unset, .unset, .unset, .unset, .unset] []))
    refine GoW.on (fun t k => XS.iload X21.here hx rfl (hb hby at_189) rfl (XS.goto X21.here hx rfl (pc0 := 191) (pc' := 203) rfl (hb hby at_191) (by decide) (by decide) (XS.istore X21.here hx rfl (hb hby at_203) rfl (l' := #[.val (.int p1), .val (.int p2), .val (.int p3), .val (.int p4), .val (.int bT), .val (.int bC), .val (.int (Int32.ofNat lT)), .val (.int (Int32.ofNat lC)), .val (.int nT), .val (.int nC), .val (.int (Int32.ofNat lR)), .val (.int cp), .val (.int r11), .val (.int r13), .val (.int r15), .val (.int r17), .val (.int r19), .val (.int r21), .val (.int (Int32.ofNat lC)), .val (.int r17), .val (.int r19), .unset, .unset, .unset, .unset, .unset, .unset]) rfl (XS.iload X21.here hx rfl (hb hby at_205) rfl k)))) ?_
    show GoW p.tables e below s _ _ _ _ _ (T21.setTop (mkF m 207 #[.val (.int p1), .val (.int p2), .val (.int p3), .val (.int p4), .val (.int bT), .val (.int bC), .val (.int (Int32.ofNat lT)), .val (.int (Int32.ofNat lC)), .val (.int nT), .val (.int nC), .val (.int (Int32.ofNat lR)), .val (.int cp), .val (.int r11), .val (.int r13), .val (.int r15), .val (.int r17), .val (.int r19), .val (.int r21), .val (.int (Int32.ofNat lC)), .val (.int r17), .val (.int r19), .unset, .unset, .unset, .unset, .unset, .unset] [(.int cp)]))
    refine GoW.on (fun t k => XS.ifNo X21.here hx rfl (hb hby at_207) rfl ((if0 _ _).trans (feq hcp).1) k) ?_
    show GoW p.tables e below s _ _ _ _ _ (T21.setTop (mkF m 210 #[.val (.int p1), .val (.int p2), .val (.int p3), .val (.int p4), .val (.int bT), .val (.int bC), .val (.int (Int32.ofNat lT)), .val (.int (Int32.ofNat lC)), .val (.int nT), .val (.int nC), .val (.int (Int32.ofNat lR)), .val (.int cp), .val (.int r11), .val (.int r13), .val (.int r15), .val (.int r17), .val (.int r19), .val (.int r21), .val (.int (Int32.ofNat lC)), .val (.int r17), .val (.int r19), .unset, .unset, .unset, .unset, .unset, .unset] []))
    refine GoW.on (fun t k => XS.iload X21.here hx rfl (hb hby at_210) rfl (XS.goto X21.here hx rfl (pc0 := 212) (pc' := 224) rfl (hb hby at_212) (by decide) (by decide) (XS.istore X21.here hx rfl (hb hby at_224) rfl (l' := #[.val (.int p1), .val (.int p2), .val (.int p3), .val (.int p4), .val (.int bT), .val (.int bC), .val (.int (Int32.ofNat lT)), .val (.int (Int32.ofNat lC)), .val (.int nT), .val (.int nC), .val (.int (Int32.ofNat lR)), .val (.int cp), .val (.int r11), .val (.int r13), .val (.int r15), .val (.int r17), .val (.int r19), .val (.int r21), .val (.int (Int32.ofNat lC)), .val (.int r17), .val (.int r19), .val (.int r21), .unset, .unset, .unset, .unset, .unset]) rfl (XS.iload X21.here hx rfl (hb hby at_226) rfl k)))) ?_
    show GoW p.tables e below s _ _ _ _ _ (T21.setTop (mkF m 228 #[.val (.int p1), .val (.int p2), .val (.int p3), .val (.int p4), .val (.int bT), .val (.int bC), .val (.int (Int32.ofNat lT)), .val (.int (Int32.ofNat lC)), .val (.int nT), .val (.int nC), .val (.int (Int32.ofNat lR)), .val (.int cp), .val (.int r11), .val (.int r13), .val (.int r15), .val (.int r17), .val (.int r19), .val (.int r21), .val (.int (Int32.ofNat lC)), .val (.int r17), .val (.int r19), .val (.int r21), .unset, .unset, .unset, .unset, .unset] [(.int nT)]))
    by_cases hnT : nT = (0 : Int32)
    · refine GoW.on (fun t k => XS.ifYes X21.here hx rfl (pc0 := 228) (pc' := 235) rfl (hb hby at_228) rfl ((if0 _ _).trans (teq hnT).1) (by decide) (by decide) k) ?_
      show GoW p.tables e below s _ _ _ _ _ (T21.setTop (mkF m 235 #[.val (.int p1), .val (.int p2), .val (.int p3), .val (.int p4), .val (.int bT), .val (.int bC), .val (.int (Int32.ofNat lT)), .val (.int (Int32.ofNat lC)), .val (.int nT), .val (.int nC), .val (.int (Int32.ofNat lR)), .val (.int cp), .val (.int r11), .val (.int r13), .val (.int r15), .val (.int r17), .val (.int r19), .val (.int r21), .val (.int (Int32.ofNat lC)), .val (.int r17), .val (.int r19), .val (.int r21), .unset, .unset, .unset, .unset, .unset] []))
      refine GoW.on (fun t k => XS.iload X21.here hx rfl (hb hby at_235) rfl (XS.iload X21.here hx rfl (hb hby at_237) rfl (XS.iload X21.here hx rfl (hb hby at_239) rfl (XS.iload X21.here hx rfl (hb hby at_241) rfl k)))) ?_
      show GoW p.tables e below s _ _ _ _ _ (T21.setTop (mkF m 243 #[.val (.int p1), .val (.int p2), .val (.int p3), .val (.int p4), .val (.int bT), .val (.int bC), .val (.int (Int32.ofNat lT)), .val (.int (Int32.ofNat lC)), .val (.int nT), .val (.int nC), .val (.int (Int32.ofNat lR)), .val (.int cp), .val (.int r11), .val (.int r13), .val (.int r15), .val (.int r17), .val (.int r19), .val (.int r21), .val (.int (Int32.ofNat lC)), .val (.int r17), .val (.int r19), .val (.int r21), .unset, .unset, .unset, .unset, .unset] [(.int r15), (.int r13), (.int r11), (.int (Int32.ofNat lT))]))
      obtain ⟨_, _, ⟨T140, L140, k140, n140⟩, -, X140, Sn140, Gr140, ⟨Lc140, hQ140, l140, y140, z140, C140⟩, st140⟩ := callSS X21 hx (y := (⟨"com/example/rhythmwire/rhythmwire/idc/CommonSegmentsIsReportPinLaw", "str", "(ICCC)Ljava/lang/String;"⟩ : MethodName)) hown (mvT hZ (hw _ (List.mem_of_getElem? (i := 4) rfl))) (mvT hZ (hw _ (List.mem_of_getElem? (i := 5) rfl))) (mvT hZ (hw _ (List.mem_of_getElem? (i := 2) rfl))) (mvT hZ (hw _ (List.mem_of_getElem? (i := 6) rfl))) (by decide) (backOfSH (W := 0) (rm2 l Z a0 hw [] (Int32.ofNat lT) r11 r13 r15 G1 lT h0 n0 Z0 Old0 O2 P5 rfl hlT P11_0 P13_0 P15_0) hZ (hw _ (List.mem_of_getElem? (i := 6) rfl)) (hw _ (List.mem_of_getElem? (i := 2) rfl)) (by decide) (by decide) hEL Ch0.1) (g := (mkF m 243 #[.val (.int p1), .val (.int p2), .val (.int p3), .val (.int p4), .val (.int bT), .val (.int bC), .val (.int (Int32.ofNat lT)), .val (.int (Int32.ofNat lC)), .val (.int nT), .val (.int nC), .val (.int (Int32.ofNat lR)), .val (.int cp), .val (.int r11), .val (.int r13), .val (.int r15), .val (.int r17), .val (.int r19), .val (.int r21), .val (.int (Int32.ofNat lC)), .val (.int r17), .val (.int r19), .val (.int r21), .unset, .unset, .unset, .unset, .unset] [(.int r15), (.int r13), (.int r11), (.int (Int32.ofNat lT))])) rfl (by rw [hml]; rfl) (argsL := [(.int (Int32.ofNat lT)), (.int r11), (.int r13), (.int r15)]) (rest := []) (lenOf pd__40_ICCC_41_Ljava_47_lang_47_String_59_ rfl) rfl (by show 2 * 0 + _ ≤ _; exact Nat.le_of_eq rfl) (hb hby at_243) (fun _ _ => ⟨rfl, e21, (by decide : ((((((0 + 0) + 0) + 0) + 0) + 0) + 0) + 6 ≤ _), (by decide : ((((((0 + 0) + 0) + 0) + 0) + 0) + 0) + 12 ≤ _)⟩)
      dsimp only [Pt.U, Pt.locs, Pt.cells, Pt.slots] at X140 l140 y140 z140 st140 hQ140 Sn140 Gr140 C140
      rw [l140, y140, z140] at X140
      obtain ⟨Y140, hS140, hZ140, hown140⟩ := rebS hS0 (Nat.le_trans hk0 (Nat.le_of_eq (congrArg Array.size e21.symm))) X140 Sn140 Gr140 hZ hown
      obtain ⟨xs140, rfl, Nq140, Kq140, P140_0⟩ := hQ140
      have Ch141 := Ch0.trans C140
      have Old0_142 := Old0.keep Kq140 all0
      have Zp143 := Nat.le_trans Z0 Kq140.1
      have Np144 := Fr.app Np22 Nq140
      refine GoW.via st140 ?_
      show GoW p.tables e below s _ _ _ _ _ (T140.setTop (mkF m 246 #[.val (.int p1), .val (.int p2), .val (.int p3), .val (.int p4), .val (.int bT), .val (.int bC), .val (.int (Int32.ofNat lT)), .val (.int (Int32.ofNat lC)), .val (.int nT), .val (.int nC), .val (.int (Int32.ofNat lR)), .val (.int cp), .val (.int r11), .val (.int r13), .val (.int r15), .val (.int r17), .val (.int r19), .val (.int r21), .val (.int (Int32.ofNat lC)), .val (.int r17), .val (.int r19), .val (.int r21), .unset, .unset, .unset, .unset, .unset] [(.ref xs140)]))
      refine GoW.on (fun t k => XS.astore Y140.here hx rfl (hb hby at_246) rfl rfl (l' := #[.val (.int p1), .val (.int p2), .val (.int p3), .val (.int p4), .val (.int bT), .val (.int bC), .val (.int (Int32.ofNat lT)), .val (.int (Int32.ofNat lC)), .val (.int nT), .val (.int nC), .val (.int (Int32.ofNat lR)), .val (.int cp), .val (.int r11), .val (.int r13), .val (.int r15), .val (.int r17), .val (.int r19), .val (.int r21), .val (.int (Int32.ofNat lC)), .val (.int r17), .val (.int r19), .val (.int r21), .val (.ref xs140), .unset, .unset, .unset, .unset]) rfl (XS.iload Y140.here hx rfl (hb hby at_248) rfl k)) ?_
      show GoW p.tables e below s _ _ _ _ _ (T140.setTop (mkF m 250 #[.val (.int p1), .val (.int p2), .val (.int p3), .val (.int p4), .val (.int bT), .val (.int bC), .val (.int (Int32.ofNat lT)), .val (.int (Int32.ofNat lC)), .val (.int nT), .val (.int nC), .val (.int (Int32.ofNat lR)), .val (.int cp), .val (.int r11), .val (.int r13), .val (.int r15), .val (.int r17), .val (.int r19), .val (.int r21), .val (.int (Int32.ofNat lC)), .val (.int r17), .val (.int r19), .val (.int r21), .val (.ref xs140), .unset, .unset, .unset, .unset] [(.int nC)]))
      by_cases hnC : nC = (0 : Int32)
      · refine GoW.on (fun t k => XS.ifYes Y140.here hx rfl (pc0 := 250) (pc' := 257) rfl (hb hby at_250) rfl ((if0 _ _).trans (teq hnC).1) (by decide) (by decide) k) ?_
        show GoW p.tables e below s _ _ _ _ _ (T140.setTop (mkF m 257 #[.val (.int p1), .val (.int p2), .val (.int p3), .val (.int p4), .val (.int bT), .val (.int bC), .val (.int (Int32.ofNat lT)), .val (.int (Int32.ofNat lC)), .val (.int nT), .val (.int nC), .val (.int (Int32.ofNat lR)), .val (.int cp), .val (.int r11), .val (.int r13), .val (.int r15), .val (.int r17), .val (.int r19), .val (.int r21), .val (.int (Int32.ofNat lC)), .val (.int r17), .val (.int r19), .val (.int r21), .val (.ref xs140), .unset, .unset, .unset, .unset] []))
        refine GoW.on (fun t k => XS.iload Y140.here hx rfl (hb hby at_257) rfl (XS.iload Y140.here hx rfl (hb hby at_259) rfl (XS.iload Y140.here hx rfl (hb hby at_261) rfl (XS.iload Y140.here hx rfl (hb hby at_263) rfl k)))) ?_
        show GoW p.tables e below s _ _ _ _ _ (T140.setTop (mkF m 265 #[.val (.int p1), .val (.int p2), .val (.int p3), .val (.int p4), .val (.int bT), .val (.int bC), .val (.int (Int32.ofNat lT)), .val (.int (Int32.ofNat lC)), .val (.int nT), .val (.int nC), .val (.int (Int32.ofNat lR)), .val (.int cp), .val (.int r11), .val (.int r13), .val (.int r15), .val (.int r17), .val (.int r19), .val (.int r21), .val (.int (Int32.ofNat lC)), .val (.int r17), .val (.int r19), .val (.int r21), .val (.ref xs140), .unset, .unset, .unset, .unset] [(.int r21), (.int r19), (.int r17), (.int (Int32.ofNat lC))]))
        obtain ⟨_, _, ⟨T145, L145, k145, n145⟩, -, X145, Sn145, Gr145, ⟨Lc145, hQ145, l145, y145, z145, C145⟩, st145⟩ := callSS Y140 hx (y := (⟨"com/example/rhythmwire/rhythmwire/idc/CommonSegmentsIsReportPinLaw", "str", "(ICCC)Ljava/lang/String;"⟩ : MethodName)) hown140 (mvT hZ140 (hw _ (List.mem_of_getElem? (i := 4) rfl))) (mvT hZ140 (hw _ (List.mem_of_getElem? (i := 5) rfl))) (mvT hZ140 (hw _ (List.mem_of_getElem? (i := 2) rfl))) (mvT hZ140 (hw _ (List.mem_of_getElem? (i := 6) rfl))) (by decide) (backOfSH (W := 0) (rm2 l Z a0 hw [] (Int32.ofNat lC) r17 r19 r21 G1 lC T140.heap n0 Zp143 Old0_142 O2 P5 rfl hlC P17_0 P19_0 P21_0) hZ140 (hw _ (List.mem_of_getElem? (i := 6) rfl)) (hw _ (List.mem_of_getElem? (i := 2) rfl)) (by decide) (by decide) hEL Ch141.1) (g := (mkF m 265 #[.val (.int p1), .val (.int p2), .val (.int p3), .val (.int p4), .val (.int bT), .val (.int bC), .val (.int (Int32.ofNat lT)), .val (.int (Int32.ofNat lC)), .val (.int nT), .val (.int nC), .val (.int (Int32.ofNat lR)), .val (.int cp), .val (.int r11), .val (.int r13), .val (.int r15), .val (.int r17), .val (.int r19), .val (.int r21), .val (.int (Int32.ofNat lC)), .val (.int r17), .val (.int r19), .val (.int r21), .val (.ref xs140), .unset, .unset, .unset, .unset] [(.int r21), (.int r19), (.int r17), (.int (Int32.ofNat lC))])) rfl (by rw [hml]; rfl) (argsL := [(.int (Int32.ofNat lC)), (.int r17), (.int r19), (.int r21)]) (rest := []) (lenOf pd__40_ICCC_41_Ljava_47_lang_47_String_59_ rfl) rfl (by show 2 * 0 + _ ≤ _; exact Nat.le_of_eq rfl) (hb hby at_265) (fun _ _ => ⟨rfl, rfl, (by decide : (((((((0 + 0) + 0) + 0) + 0) + 0) + 0) + 6) + 6 ≤ _), (by decide : (((((((0 + 0) + 0) + 0) + 0) + 0) + 0) + 12) + 12 ≤ _)⟩)
        dsimp only [Pt.U, Pt.locs, Pt.cells, Pt.slots] at X145 l145 y145 z145 st145 hQ145 Sn145 Gr145 C145
        rw [l145, y145, z145] at X145
        obtain ⟨Y145, hS145, hZ145, hown145⟩ := rebS hS140 (Nat.le_refl _) X145 Sn145 Gr145 hZ140 hown140
        obtain ⟨xs145, rfl, Nq145, Kq145, P145_0⟩ := hQ145
        have Ch146 := Ch141.trans C145
        have Old0_147 := Old0_142.keep Kq145 all0
        have P140_148 := P140_0.keep0 Kq145
        have Zp149 := Nat.le_trans Zp143 Kq145.1
        have Np150 := Fr.app Np144 Nq145
        refine GoW.via st145 ?_
        show GoW p.tables e below s _ _ _ _ _ (T145.setTop (mkF m 268 #[.val (.int p1), .val (.int p2), .val (.int p3), .val (.int p4), .val (.int bT), .val (.int bC), .val (.int (Int32.ofNat lT)), .val (.int (Int32.ofNat lC)), .val (.int nT), .val (.int nC), .val (.int (Int32.ofNat lR)), .val (.int cp), .val (.int r11), .val (.int r13), .val (.int r15), .val (.int r17), .val (.int r19), .val (.int r21), .val (.int (Int32.ofNat lC)), .val (.int r17), .val (.int r19), .val (.int r21), .val (.ref xs140), .unset, .unset, .unset, .unset] [(.ref xs145)]))
        refine GoW.on (fun t k => XS.astore Y145.here hx rfl (hb hby at_268) rfl rfl (l' := #[.val (.int p1), .val (.int p2), .val (.int p3), .val (.int p4), .val (.int bT), .val (.int bC), .val (.int (Int32.ofNat lT)), .val (.int (Int32.ofNat lC)), .val (.int nT), .val (.int nC), .val (.int (Int32.ofNat lR)), .val (.int cp), .val (.int r11), .val (.int r13), .val (.int r15), .val (.int r17), .val (.int r19), .val (.int r21), .val (.int (Int32.ofNat lC)), .val (.int r17), .val (.int r19), .val (.int r21), .val (.ref xs140), .val (.ref xs145), .unset, .unset, .unset]) rfl (XS.iload Y145.here hx rfl (hb hby at_270) rfl (XS.iload Y145.here hx rfl (hb hby at_272) rfl (XS.iload Y145.here hx rfl (hb hby at_274) rfl (XS.iload Y145.here hx rfl (hb hby at_276) rfl k))))) ?_
        show GoW p.tables e below s _ _ _ _ _ (T145.setTop (mkF m 278 #[.val (.int p1), .val (.int p2), .val (.int p3), .val (.int p4), .val (.int bT), .val (.int bC), .val (.int (Int32.ofNat lT)), .val (.int (Int32.ofNat lC)), .val (.int nT), .val (.int nC), .val (.int (Int32.ofNat lR)), .val (.int cp), .val (.int r11), .val (.int r13), .val (.int r15), .val (.int r17), .val (.int r19), .val (.int r21), .val (.int (Int32.ofNat lC)), .val (.int r17), .val (.int r19), .val (.int r21), .val (.ref xs140), .val (.ref xs145), .unset, .unset, .unset] [(.int r21), (.int r19), (.int r17), (.int (Int32.ofNat lC))]))
        obtain ⟨_, _, ⟨T151, L151, k151, n151⟩, -, X151, Sn151, Gr151, ⟨Lc151, hQ151, l151, y151, z151, C151⟩, st151⟩ := callSS Y145 hx (y := (⟨"com/example/rhythmwire/rhythmwire/idc/CommonSegmentsIsReportPinLaw", "str", "(ICCC)Ljava/lang/String;"⟩ : MethodName)) hown145 (mvT hZ145 (hw _ (List.mem_of_getElem? (i := 4) rfl))) (mvT hZ145 (hw _ (List.mem_of_getElem? (i := 5) rfl))) (mvT hZ145 (hw _ (List.mem_of_getElem? (i := 2) rfl))) (mvT hZ145 (hw _ (List.mem_of_getElem? (i := 6) rfl))) (by decide) (backOfSH (W := 0) (rm2 l Z a0 hw [] (Int32.ofNat lC) r17 r19 r21 G1 lC T145.heap n0 Zp149 Old0_147 O2 P5 rfl hlC P17_0 P19_0 P21_0) hZ145 (hw _ (List.mem_of_getElem? (i := 6) rfl)) (hw _ (List.mem_of_getElem? (i := 2) rfl)) (by decide) (by decide) hEL Ch146.1) (g := (mkF m 278 #[.val (.int p1), .val (.int p2), .val (.int p3), .val (.int p4), .val (.int bT), .val (.int bC), .val (.int (Int32.ofNat lT)), .val (.int (Int32.ofNat lC)), .val (.int nT), .val (.int nC), .val (.int (Int32.ofNat lR)), .val (.int cp), .val (.int r11), .val (.int r13), .val (.int r15), .val (.int r17), .val (.int r19), .val (.int r21), .val (.int (Int32.ofNat lC)), .val (.int r17), .val (.int r19), .val (.int r21), .val (.ref xs140), .val (.ref xs145), .unset, .unset, .unset] [(.int r21), (.int r19), (.int r17), (.int (Int32.ofNat lC))])) rfl (by rw [hml]; rfl) (argsL := [(.int (Int32.ofNat lC)), (.int r17), (.int r19), (.int r21)]) (rest := []) (lenOf pd__40_ICCC_41_Ljava_47_lang_47_String_59_ rfl) rfl (by show 2 * 0 + _ ≤ _; exact Nat.le_of_eq rfl) (hb hby at_278) (fun _ _ => ⟨rfl, rfl, (by decide : ((((((((0 + 0) + 0) + 0) + 0) + 0) + 0) + 6) + 6) + 6 ≤ _), (by decide : ((((((((0 + 0) + 0) + 0) + 0) + 0) + 0) + 12) + 12) + 12 ≤ _)⟩)
        dsimp only [Pt.U, Pt.locs, Pt.cells, Pt.slots] at X151 l151 y151 z151 st151 hQ151 Sn151 Gr151 C151
        rw [l151, y151, z151] at X151
        obtain ⟨Y151, hS151, hZ151, hown151⟩ := rebS hS145 (Nat.le_refl _) X151 Sn151 Gr151 hZ145 hown145
        obtain ⟨xs151, rfl, Nq151, Kq151, P151_0⟩ := hQ151
        have Ch152 := Ch146.trans C151
        have Old0_153 := Old0_147.keep Kq151 all0
        have P140_154 := P140_148.keep0 Kq151
        have P145_155 := P145_0.keep0 Kq151
        have Zp156 := Nat.le_trans Zp149 Kq151.1
        have Np157 := Fr.app Np150 Nq151
        refine GoW.via st151 ?_
        show GoW p.tables e below s _ _ _ _ _ (T151.setTop (mkF m 281 #[.val (.int p1), .val (.int p2), .val (.int p3), .val (.int p4), .val (.int bT), .val (.int bC), .val (.int (Int32.ofNat lT)), .val (.int (Int32.ofNat lC)), .val (.int nT), .val (.int nC), .val (.int (Int32.ofNat lR)), .val (.int cp), .val (.int r11), .val (.int r13), .val (.int r15), .val (.int r17), .val (.int r19), .val (.int r21), .val (.int (Int32.ofNat lC)), .val (.int r17), .val (.int r19), .val (.int r21), .val (.ref xs140), .val (.ref xs145), .unset, .unset, .unset] [(.ref xs151)]))
        refine GoW.on (fun t k => XS.astore Y151.here hx rfl (hb hby at_281) rfl rfl (l' := #[.val (.int p1), .val (.int p2), .val (.int p3), .val (.int p4), .val (.int bT), .val (.int bC), .val (.int (Int32.ofNat lT)), .val (.int (Int32.ofNat lC)), .val (.int nT), .val (.int nC), .val (.int (Int32.ofNat lR)), .val (.int cp), .val (.int r11), .val (.int r13), .val (.int r15), .val (.int r17), .val (.int r19), .val (.int r21), .val (.int (Int32.ofNat lC)), .val (.int r17), .val (.int r19), .val (.int r21), .val (.ref xs140), .val (.ref xs145), .val (.ref xs151), .unset, .unset]) rfl (XS.iload Y151.here hx rfl (hb hby at_283) rfl k)) ?_
        show GoW p.tables e below s _ _ _ _ _ (T151.setTop (mkF m 285 #[.val (.int p1), .val (.int p2), .val (.int p3), .val (.int p4), .val (.int bT), .val (.int bC), .val (.int (Int32.ofNat lT)), .val (.int (Int32.ofNat lC)), .val (.int nT), .val (.int nC), .val (.int (Int32.ofNat lR)), .val (.int cp), .val (.int r11), .val (.int r13), .val (.int r15), .val (.int r17), .val (.int r19), .val (.int r21), .val (.int (Int32.ofNat lC)), .val (.int r17), .val (.int r19), .val (.int r21), .val (.ref xs140), .val (.ref xs145), .val (.ref xs151), .unset, .unset] [(.int nT)]))
        refine GoW.on (fun t k => XS.ifNo Y151.here hx rfl (hb hby at_285) rfl ((if0 _ _).trans (teq hnT).2) k) ?_
        show GoW p.tables e below s _ _ _ _ _ (T151.setTop (mkF m 288 #[.val (.int p1), .val (.int p2), .val (.int p3), .val (.int p4), .val (.int bT), .val (.int bC), .val (.int (Int32.ofNat lT)), .val (.int (Int32.ofNat lC)), .val (.int nT), .val (.int nC), .val (.int (Int32.ofNat lR)), .val (.int cp), .val (.int r11), .val (.int r13), .val (.int r15), .val (.int r17), .val (.int r19), .val (.int r21), .val (.int (Int32.ofNat lC)), .val (.int r17), .val (.int r19), .val (.int r21), .val (.ref xs140), .val (.ref xs145), .val (.ref xs151), .unset, .unset] []))
        refine GoW.on (fun t k => XS.iload Y151.here hx rfl (hb hby at_288) rfl (XS.iconst Y151.here hx rfl (hb hby at_290) k)) ?_
        show GoW p.tables e below s _ _ _ _ _ (T151.setTop (mkF m 291 #[.val (.int p1), .val (.int p2), .val (.int p3), .val (.int p4), .val (.int bT), .val (.int bC), .val (.int (Int32.ofNat lT)), .val (.int (Int32.ofNat lC)), .val (.int nT), .val (.int nC), .val (.int (Int32.ofNat lR)), .val (.int cp), .val (.int r11), .val (.int r13), .val (.int r15), .val (.int r17), .val (.int r19), .val (.int r21), .val (.int (Int32.ofNat lC)), .val (.int r17), .val (.int r19), .val (.int r21), .val (.ref xs140), .val (.ref xs145), .val (.ref xs151), .unset, .unset] [(.int (2 : Int32)), (.int (Int32.ofNat lT))]))
        have J158 : GoW p.tables e below s (Q0 Z p1 p2 p3 p4 G1 h0 n0) Z own_EL room_1.cells room_1.slots (T151.setTop (mkF m 313 #[.val (.int p1), .val (.int p2), .val (.int p3), .val (.int p4), .val (.int bT), .val (.int bC), .val (.int (Int32.ofNat lT)), .val (.int (Int32.ofNat lC)), .val (.int nT), .val (.int nC), .val (.int (Int32.ofNat lR)), .val (.int cp), .val (.int r11), .val (.int r13), .val (.int r15), .val (.int r17), .val (.int r19), .val (.int r21), .val (.int (Int32.ofNat lC)), .val (.int r17), .val (.int r19), .val (.int r21), .val (.ref xs140), .val (.ref xs145), .val (.ref xs151), .unset, .unset] [(.int (own_b ((([r11, r13, r15] : List Int32).take lT) = ([69, 68] : List Int32))))])) → GoW p.tables e below s (Q0 Z p1 p2 p3 p4 G1 h0 n0) Z own_EL room_1.cells room_1.slots (T151.setTop (mkF m 291 #[.val (.int p1), .val (.int p2), .val (.int p3), .val (.int p4), .val (.int bT), .val (.int bC), .val (.int (Int32.ofNat lT)), .val (.int (Int32.ofNat lC)), .val (.int nT), .val (.int nC), .val (.int (Int32.ofNat lR)), .val (.int cp), .val (.int r11), .val (.int r13), .val (.int r15), .val (.int r17), .val (.int r19), .val (.int r21), .val (.int (Int32.ofNat lC)), .val (.int r17), .val (.int r19), .val (.int r21), .val (.ref xs140), .val (.ref xs145), .val (.ref xs151), .unset, .unset] [(.int (2 : Int32)), (.int (Int32.ofNat lT))])) := by
          intro kJ
          by_cases hc291_159 : (Int32.ofNat lT) = (2 : Int32)
          · refine GoW.on (fun t k => XS.icmpNo Y151.here hx rfl (hb hby at_291) rfl (teq hc291_159).2 k) ?_
            show GoW p.tables e below s _ _ _ _ _ (T151.setTop (mkF m 294 #[.val (.int p1), .val (.int p2), .val (.int p3), .val (.int p4), .val (.int bT), .val (.int bC), .val (.int (Int32.ofNat lT)), .val (.int (Int32.ofNat lC)), .val (.int nT), .val (.int nC), .val (.int (Int32.ofNat lR)), .val (.int cp), .val (.int r11), .val (.int r13), .val (.int r15), .val (.int r17), .val (.int r19), .val (.int r21), .val (.int (Int32.ofNat lC)), .val (.int r17), .val (.int r19), .val (.int r21), .val (.ref xs140), .val (.ref xs145), .val (.ref xs151), .unset, .unset] []))
            refine GoW.on (fun t k => XS.iload Y151.here hx rfl (hb hby at_294) rfl (XS.bipush Y151.here hx rfl (hb hby at_296) k)) ?_
            show GoW p.tables e below s _ _ _ _ _ (T151.setTop (mkF m 298 #[.val (.int p1), .val (.int p2), .val (.int p3), .val (.int p4), .val (.int bT), .val (.int bC), .val (.int (Int32.ofNat lT)), .val (.int (Int32.ofNat lC)), .val (.int nT), .val (.int nC), .val (.int (Int32.ofNat lR)), .val (.int cp), .val (.int r11), .val (.int r13), .val (.int r15), .val (.int r17), .val (.int r19), .val (.int r21), .val (.int (Int32.ofNat lC)), .val (.int r17), .val (.int r19), .val (.int r21), .val (.ref xs140), .val (.ref xs145), .val (.ref xs151), .unset, .unset] [(.int (69 : Int32)), (.int r11)]))
            by_cases hc298_160 : r11 = (69 : Int32)
            · refine GoW.on (fun t k => XS.icmpNo Y151.here hx rfl (hb hby at_298) rfl (teq hc298_160).2 k) ?_
              show GoW p.tables e below s _ _ _ _ _ (T151.setTop (mkF m 301 #[.val (.int p1), .val (.int p2), .val (.int p3), .val (.int p4), .val (.int bT), .val (.int bC), .val (.int (Int32.ofNat lT)), .val (.int (Int32.ofNat lC)), .val (.int nT), .val (.int nC), .val (.int (Int32.ofNat lR)), .val (.int cp), .val (.int r11), .val (.int r13), .val (.int r15), .val (.int r17), .val (.int r19), .val (.int r21), .val (.int (Int32.ofNat lC)), .val (.int r17), .val (.int r19), .val (.int r21), .val (.ref xs140), .val (.ref xs145), .val (.ref xs151), .unset, .unset] []))
              refine GoW.on (fun t k => XS.iload Y151.here hx rfl (hb hby at_301) rfl (XS.bipush Y151.here hx rfl (hb hby at_303) k)) ?_
              show GoW p.tables e below s _ _ _ _ _ (T151.setTop (mkF m 305 #[.val (.int p1), .val (.int p2), .val (.int p3), .val (.int p4), .val (.int bT), .val (.int bC), .val (.int (Int32.ofNat lT)), .val (.int (Int32.ofNat lC)), .val (.int nT), .val (.int nC), .val (.int (Int32.ofNat lR)), .val (.int cp), .val (.int r11), .val (.int r13), .val (.int r15), .val (.int r17), .val (.int r19), .val (.int r21), .val (.int (Int32.ofNat lC)), .val (.int r17), .val (.int r19), .val (.int r21), .val (.ref xs140), .val (.ref xs145), .val (.ref xs151), .unset, .unset] [(.int (68 : Int32)), (.int r13)]))
              by_cases hc305_161 : r13 = (68 : Int32)
              · refine GoW.on (fun t k => XS.icmpNo Y151.here hx rfl (hb hby at_305) rfl (teq hc305_161).2 k) ?_
                show GoW p.tables e below s _ _ _ _ _ (T151.setTop (mkF m 308 #[.val (.int p1), .val (.int p2), .val (.int p3), .val (.int p4), .val (.int bT), .val (.int bC), .val (.int (Int32.ofNat lT)), .val (.int (Int32.ofNat lC)), .val (.int nT), .val (.int nC), .val (.int (Int32.ofNat lR)), .val (.int cp), .val (.int r11), .val (.int r13), .val (.int r15), .val (.int r17), .val (.int r19), .val (.int r21), .val (.int (Int32.ofNat lC)), .val (.int r17), .val (.int r19), .val (.int r21), .val (.ref xs140), .val (.ref xs145), .val (.ref xs151), .unset, .unset] []))
                refine GoW.on (fun t k => XS.iconst Y151.here hx rfl (hb hby at_308) (XS.goto Y151.here hx rfl (pc0 := 309) (pc' := 313) rfl (hb hby at_309) (by decide) (by decide) k)) ?_
                show GoW p.tables e below s _ _ _ _ _ (T151.setTop (mkF m 313 #[.val (.int p1), .val (.int p2), .val (.int p3), .val (.int p4), .val (.int bT), .val (.int bC), .val (.int (Int32.ofNat lT)), .val (.int (Int32.ofNat lC)), .val (.int nT), .val (.int nC), .val (.int (Int32.ofNat lR)), .val (.int cp), .val (.int r11), .val (.int r13), .val (.int r15), .val (.int r17), .val (.int r19), .val (.int r21), .val (.int (Int32.ofNat lC)), .val (.int r17), .val (.int r19), .val (.int r21), .val (.ref xs140), .val (.ref xs145), .val (.ref xs151), .unset, .unset] [(.int (1 : Int32))]))
                have eJ : own_b ((([r11, r13, r15] : List Int32).take lT) = ([69, 68] : List Int32)) = 1 := own_bt ((own_tk hlT).mpr ⟨(own_num hlT (by decide : 2 ≤ 3)).mp hc291_159, hc298_160, hc305_161⟩)
                rw [eJ] at kJ
                exact kJ
              · refine GoW.on (fun t k => XS.icmpYes Y151.here hx rfl (pc0 := 305) (pc' := 312) rfl (hb hby at_305) rfl (feq hc305_161).2 (by decide) (by decide) k) ?_
                show GoW p.tables e below s _ _ _ _ _ (T151.setTop (mkF m 312 #[.val (.int p1), .val (.int p2), .val (.int p3), .val (.int p4), .val (.int bT), .val (.int bC), .val (.int (Int32.ofNat lT)), .val (.int (Int32.ofNat lC)), .val (.int nT), .val (.int nC), .val (.int (Int32.ofNat lR)), .val (.int cp), .val (.int r11), .val (.int r13), .val (.int r15), .val (.int r17), .val (.int r19), .val (.int r21), .val (.int (Int32.ofNat lC)), .val (.int r17), .val (.int r19), .val (.int r21), .val (.ref xs140), .val (.ref xs145), .val (.ref xs151), .unset, .unset] []))
                refine GoW.on (fun t k => XS.iconst Y151.here hx rfl (hb hby at_312) k) ?_
                show GoW p.tables e below s _ _ _ _ _ (T151.setTop (mkF m 313 #[.val (.int p1), .val (.int p2), .val (.int p3), .val (.int p4), .val (.int bT), .val (.int bC), .val (.int (Int32.ofNat lT)), .val (.int (Int32.ofNat lC)), .val (.int nT), .val (.int nC), .val (.int (Int32.ofNat lR)), .val (.int cp), .val (.int r11), .val (.int r13), .val (.int r15), .val (.int r17), .val (.int r19), .val (.int r21), .val (.int (Int32.ofNat lC)), .val (.int r17), .val (.int r19), .val (.int r21), .val (.ref xs140), .val (.ref xs145), .val (.ref xs151), .unset, .unset] [(.int (0 : Int32))]))
                have eJ : own_b ((([r11, r13, r15] : List Int32).take lT) = ([69, 68] : List Int32)) = 0 := own_bf (fun q => hc305_161 ((own_tk hlT).mp q).2.2)
                rw [eJ] at kJ
                exact kJ
            · refine GoW.on (fun t k => XS.icmpYes Y151.here hx rfl (pc0 := 298) (pc' := 312) rfl (hb hby at_298) rfl (feq hc298_160).2 (by decide) (by decide) k) ?_
              show GoW p.tables e below s _ _ _ _ _ (T151.setTop (mkF m 312 #[.val (.int p1), .val (.int p2), .val (.int p3), .val (.int p4), .val (.int bT), .val (.int bC), .val (.int (Int32.ofNat lT)), .val (.int (Int32.ofNat lC)), .val (.int nT), .val (.int nC), .val (.int (Int32.ofNat lR)), .val (.int cp), .val (.int r11), .val (.int r13), .val (.int r15), .val (.int r17), .val (.int r19), .val (.int r21), .val (.int (Int32.ofNat lC)), .val (.int r17), .val (.int r19), .val (.int r21), .val (.ref xs140), .val (.ref xs145), .val (.ref xs151), .unset, .unset] []))
              refine GoW.on (fun t k => XS.iconst Y151.here hx rfl (hb hby at_312) k) ?_
              show GoW p.tables e below s _ _ _ _ _ (T151.setTop (mkF m 313 #[.val (.int p1), .val (.int p2), .val (.int p3), .val (.int p4), .val (.int bT), .val (.int bC), .val (.int (Int32.ofNat lT)), .val (.int (Int32.ofNat lC)), .val (.int nT), .val (.int nC), .val (.int (Int32.ofNat lR)), .val (.int cp), .val (.int r11), .val (.int r13), .val (.int r15), .val (.int r17), .val (.int r19), .val (.int r21), .val (.int (Int32.ofNat lC)), .val (.int r17), .val (.int r19), .val (.int r21), .val (.ref xs140), .val (.ref xs145), .val (.ref xs151), .unset, .unset] [(.int (0 : Int32))]))
              have eJ : own_b ((([r11, r13, r15] : List Int32).take lT) = ([69, 68] : List Int32)) = 0 := own_bf (fun q => hc298_160 ((own_tk hlT).mp q).2.1)
              rw [eJ] at kJ
              exact kJ
          · refine GoW.on (fun t k => XS.icmpYes Y151.here hx rfl (pc0 := 291) (pc' := 312) rfl (hb hby at_291) rfl (feq hc291_159).2 (by decide) (by decide) k) ?_
            show GoW p.tables e below s _ _ _ _ _ (T151.setTop (mkF m 312 #[.val (.int p1), .val (.int p2), .val (.int p3), .val (.int p4), .val (.int bT), .val (.int bC), .val (.int (Int32.ofNat lT)), .val (.int (Int32.ofNat lC)), .val (.int nT), .val (.int nC), .val (.int (Int32.ofNat lR)), .val (.int cp), .val (.int r11), .val (.int r13), .val (.int r15), .val (.int r17), .val (.int r19), .val (.int r21), .val (.int (Int32.ofNat lC)), .val (.int r17), .val (.int r19), .val (.int r21), .val (.ref xs140), .val (.ref xs145), .val (.ref xs151), .unset, .unset] []))
            refine GoW.on (fun t k => XS.iconst Y151.here hx rfl (hb hby at_312) k) ?_
            show GoW p.tables e below s _ _ _ _ _ (T151.setTop (mkF m 313 #[.val (.int p1), .val (.int p2), .val (.int p3), .val (.int p4), .val (.int bT), .val (.int bC), .val (.int (Int32.ofNat lT)), .val (.int (Int32.ofNat lC)), .val (.int nT), .val (.int nC), .val (.int (Int32.ofNat lR)), .val (.int cp), .val (.int r11), .val (.int r13), .val (.int r15), .val (.int r17), .val (.int r19), .val (.int r21), .val (.int (Int32.ofNat lC)), .val (.int r17), .val (.int r19), .val (.int r21), .val (.ref xs140), .val (.ref xs145), .val (.ref xs151), .unset, .unset] [(.int (0 : Int32))]))
            have eJ : own_b ((([r11, r13, r15] : List Int32).take lT) = ([69, 68] : List Int32)) = 0 := own_bf (fun q => hc291_159 ((own_num hlT (by decide : 2 ≤ 3)).mpr ((own_tk hlT).mp q).1))
            rw [eJ] at kJ
            exact kJ
        refine J158 ?_
        show GoW p.tables e below s _ _ _ _ _ (T151.setTop (mkF m 313 #[.val (.int p1), .val (.int p2), .val (.int p3), .val (.int p4), .val (.int bT), .val (.int bC), .val (.int (Int32.ofNat lT)), .val (.int (Int32.ofNat lC)), .val (.int nT), .val (.int nC), .val (.int (Int32.ofNat lR)), .val (.int cp), .val (.int r11), .val (.int r13), .val (.int r15), .val (.int r17), .val (.int r19), .val (.int r21), .val (.int (Int32.ofNat lC)), .val (.int r17), .val (.int r19), .val (.int r21), .val (.ref xs140), .val (.ref xs145), .val (.ref xs151), .unset, .unset] [(.int (own_b ((([r11, r13, r15] : List Int32).take lT) = ([69, 68] : List Int32))))]))
        refine GoW.on (fun t k => XS.istore Y151.here hx rfl (hb hby at_313) rfl (l' := #[.val (.int p1), .val (.int p2), .val (.int p3), .val (.int p4), .val (.int bT), .val (.int bC), .val (.int (Int32.ofNat lT)), .val (.int (Int32.ofNat lC)), .val (.int nT), .val (.int nC), .val (.int (Int32.ofNat lR)), .val (.int cp), .val (.int r11), .val (.int r13), .val (.int r15), .val (.int r17), .val (.int r19), .val (.int r21), .val (.int (Int32.ofNat lC)), .val (.int r17), .val (.int r19), .val (.int r21), .val (.ref xs140), .val (.ref xs145), .val (.ref xs151), .val (.int (own_b ((([r11, r13, r15] : List Int32).take lT) = ([69, 68] : List Int32)))), .unset]) rfl (XS.iload Y151.here hx rfl (hb hby at_315) rfl k)) ?_
        show GoW p.tables e below s _ _ _ _ _ (T151.setTop (mkF m 317 #[.val (.int p1), .val (.int p2), .val (.int p3), .val (.int p4), .val (.int bT), .val (.int bC), .val (.int (Int32.ofNat lT)), .val (.int (Int32.ofNat lC)), .val (.int nT), .val (.int nC), .val (.int (Int32.ofNat lR)), .val (.int cp), .val (.int r11), .val (.int r13), .val (.int r15), .val (.int r17), .val (.int r19), .val (.int r21), .val (.int (Int32.ofNat lC)), .val (.int r17), .val (.int r19), .val (.int r21), .val (.ref xs140), .val (.ref xs145), .val (.ref xs151), .val (.int (own_b ((([r11, r13, r15] : List Int32).take lT) = ([69, 68] : List Int32)))), .unset] [(.int nC)]))
        refine GoW.on (fun t k => XS.ifNo Y151.here hx rfl (hb hby at_317) rfl ((if0 _ _).trans (teq hnC).2) k) ?_
        show GoW p.tables e below s _ _ _ _ _ (T151.setTop (mkF m 320 #[.val (.int p1), .val (.int p2), .val (.int p3), .val (.int p4), .val (.int bT), .val (.int bC), .val (.int (Int32.ofNat lT)), .val (.int (Int32.ofNat lC)), .val (.int nT), .val (.int nC), .val (.int (Int32.ofNat lR)), .val (.int cp), .val (.int r11), .val (.int r13), .val (.int r15), .val (.int r17), .val (.int r19), .val (.int r21), .val (.int (Int32.ofNat lC)), .val (.int r17), .val (.int r19), .val (.int r21), .val (.ref xs140), .val (.ref xs145), .val (.ref xs151), .val (.int (own_b ((([r11, r13, r15] : List Int32).take lT) = ([69, 68] : List Int32)))), .unset] []))
        refine GoW.on (fun t k => XS.iload Y151.here hx rfl (hb hby at_320) rfl (XS.iload Y151.here hx rfl (hb hby at_322) rfl k)) ?_
        show GoW p.tables e below s _ _ _ _ _ (T151.setTop (mkF m 324 #[.val (.int p1), .val (.int p2), .val (.int p3), .val (.int p4), .val (.int bT), .val (.int bC), .val (.int (Int32.ofNat lT)), .val (.int (Int32.ofNat lC)), .val (.int nT), .val (.int nC), .val (.int (Int32.ofNat lR)), .val (.int cp), .val (.int r11), .val (.int r13), .val (.int r15), .val (.int r17), .val (.int r19), .val (.int r21), .val (.int (Int32.ofNat lC)), .val (.int r17), .val (.int r19), .val (.int r21), .val (.ref xs140), .val (.ref xs145), .val (.ref xs151), .val (.int (own_b ((([r11, r13, r15] : List Int32).take lT) = ([69, 68] : List Int32)))), .unset] [(.int (Int32.ofNat lC)), (.int (Int32.ofNat lC))]))
        have J162 : GoW p.tables e below s (Q0 Z p1 p2 p3 p4 G1 h0 n0) Z own_EL room_1.cells room_1.slots (T151.setTop (mkF m 371 #[.val (.int p1), .val (.int p2), .val (.int p3), .val (.int p4), .val (.int bT), .val (.int bC), .val (.int (Int32.ofNat lT)), .val (.int (Int32.ofNat lC)), .val (.int nT), .val (.int nC), .val (.int (Int32.ofNat lR)), .val (.int cp), .val (.int r11), .val (.int r13), .val (.int r15), .val (.int r17), .val (.int r19), .val (.int r21), .val (.int (Int32.ofNat lC)), .val (.int r17), .val (.int r19), .val (.int r21), .val (.ref xs140), .val (.ref xs145), .val (.ref xs151), .val (.int (own_b ((([r11, r13, r15] : List Int32).take lT) = ([69, 68] : List Int32)))), .unset] [(.int (own_b ((([r17, r19, r21] : List Int32).take lC) = (([r17, r19, r21] : List Int32).take lC))))])) → GoW p.tables e below s (Q0 Z p1 p2 p3 p4 G1 h0 n0) Z own_EL room_1.cells room_1.slots (T151.setTop (mkF m 324 #[.val (.int p1), .val (.int p2), .val (.int p3), .val (.int p4), .val (.int bT), .val (.int bC), .val (.int (Int32.ofNat lT)), .val (.int (Int32.ofNat lC)), .val (.int nT), .val (.int nC), .val (.int (Int32.ofNat lR)), .val (.int cp), .val (.int r11), .val (.int r13), .val (.int r15), .val (.int r17), .val (.int r19), .val (.int r21), .val (.int (Int32.ofNat lC)), .val (.int r17), .val (.int r19), .val (.int r21), .val (.ref xs140), .val (.ref xs145), .val (.ref xs151), .val (.int (own_b ((([r11, r13, r15] : List Int32).take lT) = ([69, 68] : List Int32)))), .unset] [(.int (Int32.ofNat lC)), (.int (Int32.ofNat lC))])) := by
          intro kJ
          by_cases hc324_163 : (Int32.ofNat lC) = (Int32.ofNat lC)
          · refine GoW.on (fun t k => XS.icmpNo Y151.here hx rfl (hb hby at_324) rfl (teq hc324_163).2 k) ?_
            show GoW p.tables e below s _ _ _ _ _ (T151.setTop (mkF m 327 #[.val (.int p1), .val (.int p2), .val (.int p3), .val (.int p4), .val (.int bT), .val (.int bC), .val (.int (Int32.ofNat lT)), .val (.int (Int32.ofNat lC)), .val (.int nT), .val (.int nC), .val (.int (Int32.ofNat lR)), .val (.int cp), .val (.int r11), .val (.int r13), .val (.int r15), .val (.int r17), .val (.int r19), .val (.int r21), .val (.int (Int32.ofNat lC)), .val (.int r17), .val (.int r19), .val (.int r21), .val (.ref xs140), .val (.ref xs145), .val (.ref xs151), .val (.int (own_b ((([r11, r13, r15] : List Int32).take lT) = ([69, 68] : List Int32)))), .unset] []))
            refine GoW.on (fun t k => XS.iload Y151.here hx rfl (hb hby at_327) rfl (XS.iconst Y151.here hx rfl (hb hby at_329) k)) ?_
            show GoW p.tables e below s _ _ _ _ _ (T151.setTop (mkF m 330 #[.val (.int p1), .val (.int p2), .val (.int p3), .val (.int p4), .val (.int bT), .val (.int bC), .val (.int (Int32.ofNat lT)), .val (.int (Int32.ofNat lC)), .val (.int nT), .val (.int nC), .val (.int (Int32.ofNat lR)), .val (.int cp), .val (.int r11), .val (.int r13), .val (.int r15), .val (.int r17), .val (.int r19), .val (.int r21), .val (.int (Int32.ofNat lC)), .val (.int r17), .val (.int r19), .val (.int r21), .val (.ref xs140), .val (.ref xs145), .val (.ref xs151), .val (.int (own_b ((([r11, r13, r15] : List Int32).take lT) = ([69, 68] : List Int32)))), .unset] [(.int (1 : Int32)), (.int (Int32.ofNat lC))]))
            by_cases hc330_164 : (Int32.ofNat lC) < (1 : Int32)
            · refine GoW.on (fun t k => XS.icmpYes Y151.here hx rfl (pc0 := 330) (pc' := 340) rfl (hb hby at_330) rfl (tlt hc330_164).1 (by decide) (by decide) k) ?_
              show GoW p.tables e below s _ _ _ _ _ (T151.setTop (mkF m 340 #[.val (.int p1), .val (.int p2), .val (.int p3), .val (.int p4), .val (.int bT), .val (.int bC), .val (.int (Int32.ofNat lT)), .val (.int (Int32.ofNat lC)), .val (.int nT), .val (.int nC), .val (.int (Int32.ofNat lR)), .val (.int cp), .val (.int r11), .val (.int r13), .val (.int r15), .val (.int r17), .val (.int r19), .val (.int r21), .val (.int (Int32.ofNat lC)), .val (.int r17), .val (.int r19), .val (.int r21), .val (.ref xs140), .val (.ref xs145), .val (.ref xs151), .val (.int (own_b ((([r11, r13, r15] : List Int32).take lT) = ([69, 68] : List Int32)))), .unset] []))
              refine GoW.on (fun t k => XS.iload Y151.here hx rfl (hb hby at_340) rfl (XS.iconst Y151.here hx rfl (hb hby at_342) k)) ?_
              show GoW p.tables e below s _ _ _ _ _ (T151.setTop (mkF m 343 #[.val (.int p1), .val (.int p2), .val (.int p3), .val (.int p4), .val (.int bT), .val (.int bC), .val (.int (Int32.ofNat lT)), .val (.int (Int32.ofNat lC)), .val (.int nT), .val (.int nC), .val (.int (Int32.ofNat lR)), .val (.int cp), .val (.int r11), .val (.int r13), .val (.int r15), .val (.int r17), .val (.int r19), .val (.int r21), .val (.int (Int32.ofNat lC)), .val (.int r17), .val (.int r19), .val (.int r21), .val (.ref xs140), .val (.ref xs145), .val (.ref xs151), .val (.int (own_b ((([r11, r13, r15] : List Int32).take lT) = ([69, 68] : List Int32)))), .unset] [(.int (2 : Int32)), (.int (Int32.ofNat lC))]))
              by_cases hc343_165 : (Int32.ofNat lC) < (2 : Int32)
              · refine GoW.on (fun t k => XS.icmpYes Y151.here hx rfl (pc0 := 343) (pc' := 353) rfl (hb hby at_343) rfl (tlt hc343_165).1 (by decide) (by decide) k) ?_
                show GoW p.tables e below s _ _ _ _ _ (T151.setTop (mkF m 353 #[.val (.int p1), .val (.int p2), .val (.int p3), .val (.int p4), .val (.int bT), .val (.int bC), .val (.int (Int32.ofNat lT)), .val (.int (Int32.ofNat lC)), .val (.int nT), .val (.int nC), .val (.int (Int32.ofNat lR)), .val (.int cp), .val (.int r11), .val (.int r13), .val (.int r15), .val (.int r17), .val (.int r19), .val (.int r21), .val (.int (Int32.ofNat lC)), .val (.int r17), .val (.int r19), .val (.int r21), .val (.ref xs140), .val (.ref xs145), .val (.ref xs151), .val (.int (own_b ((([r11, r13, r15] : List Int32).take lT) = ([69, 68] : List Int32)))), .unset] []))
                refine GoW.on (fun t k => XS.iload Y151.here hx rfl (hb hby at_353) rfl (XS.iconst Y151.here hx rfl (hb hby at_355) k)) ?_
                show GoW p.tables e below s _ _ _ _ _ (T151.setTop (mkF m 356 #[.val (.int p1), .val (.int p2), .val (.int p3), .val (.int p4), .val (.int bT), .val (.int bC), .val (.int (Int32.ofNat lT)), .val (.int (Int32.ofNat lC)), .val (.int nT), .val (.int nC), .val (.int (Int32.ofNat lR)), .val (.int cp), .val (.int r11), .val (.int r13), .val (.int r15), .val (.int r17), .val (.int r19), .val (.int r21), .val (.int (Int32.ofNat lC)), .val (.int r17), .val (.int r19), .val (.int r21), .val (.ref xs140), .val (.ref xs145), .val (.ref xs151), .val (.int (own_b ((([r11, r13, r15] : List Int32).take lT) = ([69, 68] : List Int32)))), .unset] [(.int (3 : Int32)), (.int (Int32.ofNat lC))]))
                by_cases hc356_166 : (Int32.ofNat lC) < (3 : Int32)
                · refine GoW.on (fun t k => XS.icmpYes Y151.here hx rfl (pc0 := 356) (pc' := 366) rfl (hb hby at_356) rfl (tlt hc356_166).1 (by decide) (by decide) k) ?_
                  show GoW p.tables e below s _ _ _ _ _ (T151.setTop (mkF m 366 #[.val (.int p1), .val (.int p2), .val (.int p3), .val (.int p4), .val (.int bT), .val (.int bC), .val (.int (Int32.ofNat lT)), .val (.int (Int32.ofNat lC)), .val (.int nT), .val (.int nC), .val (.int (Int32.ofNat lR)), .val (.int cp), .val (.int r11), .val (.int r13), .val (.int r15), .val (.int r17), .val (.int r19), .val (.int r21), .val (.int (Int32.ofNat lC)), .val (.int r17), .val (.int r19), .val (.int r21), .val (.ref xs140), .val (.ref xs145), .val (.ref xs151), .val (.int (own_b ((([r11, r13, r15] : List Int32).take lT) = ([69, 68] : List Int32)))), .unset] []))
                  refine GoW.on (fun t k => XS.iconst Y151.here hx rfl (hb hby at_366) (XS.goto Y151.here hx rfl (pc0 := 367) (pc' := 371) rfl (hb hby at_367) (by decide) (by decide) k)) ?_
                  show GoW p.tables e below s _ _ _ _ _ (T151.setTop (mkF m 371 #[.val (.int p1), .val (.int p2), .val (.int p3), .val (.int p4), .val (.int bT), .val (.int bC), .val (.int (Int32.ofNat lT)), .val (.int (Int32.ofNat lC)), .val (.int nT), .val (.int nC), .val (.int (Int32.ofNat lR)), .val (.int cp), .val (.int r11), .val (.int r13), .val (.int r15), .val (.int r17), .val (.int r19), .val (.int r21), .val (.int (Int32.ofNat lC)), .val (.int r17), .val (.int r19), .val (.int r21), .val (.ref xs140), .val (.ref xs145), .val (.ref xs151), .val (.int (own_b ((([r11, r13, r15] : List Int32).take lT) = ([69, 68] : List Int32)))), .unset] [(.int (1 : Int32))]))
                  have eJ : own_b ((([r17, r19, r21] : List Int32).take lC) = (([r17, r19, r21] : List Int32).take lC)) = 1 := own_bt ((own_tke hlC hlC).mpr ⟨hc324_163, Or.inl hc330_164, Or.inl hc343_165, Or.inl hc356_166⟩)
                  rw [eJ] at kJ
                  exact kJ
                · refine GoW.on (fun t k => XS.icmpNo Y151.here hx rfl (hb hby at_356) rfl (flt hc356_166).1 k) ?_
                  show GoW p.tables e below s _ _ _ _ _ (T151.setTop (mkF m 359 #[.val (.int p1), .val (.int p2), .val (.int p3), .val (.int p4), .val (.int bT), .val (.int bC), .val (.int (Int32.ofNat lT)), .val (.int (Int32.ofNat lC)), .val (.int nT), .val (.int nC), .val (.int (Int32.ofNat lR)), .val (.int cp), .val (.int r11), .val (.int r13), .val (.int r15), .val (.int r17), .val (.int r19), .val (.int r21), .val (.int (Int32.ofNat lC)), .val (.int r17), .val (.int r19), .val (.int r21), .val (.ref xs140), .val (.ref xs145), .val (.ref xs151), .val (.int (own_b ((([r11, r13, r15] : List Int32).take lT) = ([69, 68] : List Int32)))), .unset] []))
                  refine GoW.on (fun t k => XS.iload Y151.here hx rfl (hb hby at_359) rfl (XS.iload Y151.here hx rfl (hb hby at_361) rfl k)) ?_
                  show GoW p.tables e below s _ _ _ _ _ (T151.setTop (mkF m 363 #[.val (.int p1), .val (.int p2), .val (.int p3), .val (.int p4), .val (.int bT), .val (.int bC), .val (.int (Int32.ofNat lT)), .val (.int (Int32.ofNat lC)), .val (.int nT), .val (.int nC), .val (.int (Int32.ofNat lR)), .val (.int cp), .val (.int r11), .val (.int r13), .val (.int r15), .val (.int r17), .val (.int r19), .val (.int r21), .val (.int (Int32.ofNat lC)), .val (.int r17), .val (.int r19), .val (.int r21), .val (.ref xs140), .val (.ref xs145), .val (.ref xs151), .val (.int (own_b ((([r11, r13, r15] : List Int32).take lT) = ([69, 68] : List Int32)))), .unset] [(.int r21), (.int r21)]))
                  by_cases hc363_167 : r21 = r21
                  · refine GoW.on (fun t k => XS.icmpNo Y151.here hx rfl (hb hby at_363) rfl (teq hc363_167).2 k) ?_
                    show GoW p.tables e below s _ _ _ _ _ (T151.setTop (mkF m 366 #[.val (.int p1), .val (.int p2), .val (.int p3), .val (.int p4), .val (.int bT), .val (.int bC), .val (.int (Int32.ofNat lT)), .val (.int (Int32.ofNat lC)), .val (.int nT), .val (.int nC), .val (.int (Int32.ofNat lR)), .val (.int cp), .val (.int r11), .val (.int r13), .val (.int r15), .val (.int r17), .val (.int r19), .val (.int r21), .val (.int (Int32.ofNat lC)), .val (.int r17), .val (.int r19), .val (.int r21), .val (.ref xs140), .val (.ref xs145), .val (.ref xs151), .val (.int (own_b ((([r11, r13, r15] : List Int32).take lT) = ([69, 68] : List Int32)))), .unset] []))
                    refine GoW.on (fun t k => XS.iconst Y151.here hx rfl (hb hby at_366) (XS.goto Y151.here hx rfl (pc0 := 367) (pc' := 371) rfl (hb hby at_367) (by decide) (by decide) k)) ?_
                    show GoW p.tables e below s _ _ _ _ _ (T151.setTop (mkF m 371 #[.val (.int p1), .val (.int p2), .val (.int p3), .val (.int p4), .val (.int bT), .val (.int bC), .val (.int (Int32.ofNat lT)), .val (.int (Int32.ofNat lC)), .val (.int nT), .val (.int nC), .val (.int (Int32.ofNat lR)), .val (.int cp), .val (.int r11), .val (.int r13), .val (.int r15), .val (.int r17), .val (.int r19), .val (.int r21), .val (.int (Int32.ofNat lC)), .val (.int r17), .val (.int r19), .val (.int r21), .val (.ref xs140), .val (.ref xs145), .val (.ref xs151), .val (.int (own_b ((([r11, r13, r15] : List Int32).take lT) = ([69, 68] : List Int32)))), .unset] [(.int (1 : Int32))]))
                    have eJ : own_b ((([r17, r19, r21] : List Int32).take lC) = (([r17, r19, r21] : List Int32).take lC)) = 1 := own_bt ((own_tke hlC hlC).mpr ⟨hc324_163, Or.inl hc330_164, Or.inl hc343_165, Or.inr hc363_167⟩)
                    rw [eJ] at kJ
                    exact kJ
                  · refine GoW.on (fun t k => XS.icmpYes Y151.here hx rfl (pc0 := 363) (pc' := 370) rfl (hb hby at_363) rfl (feq hc363_167).2 (by decide) (by decide) k) ?_
                    show GoW p.tables e below s _ _ _ _ _ (T151.setTop (mkF m 370 #[.val (.int p1), .val (.int p2), .val (.int p3), .val (.int p4), .val (.int bT), .val (.int bC), .val (.int (Int32.ofNat lT)), .val (.int (Int32.ofNat lC)), .val (.int nT), .val (.int nC), .val (.int (Int32.ofNat lR)), .val (.int cp), .val (.int r11), .val (.int r13), .val (.int r15), .val (.int r17), .val (.int r19), .val (.int r21), .val (.int (Int32.ofNat lC)), .val (.int r17), .val (.int r19), .val (.int r21), .val (.ref xs140), .val (.ref xs145), .val (.ref xs151), .val (.int (own_b ((([r11, r13, r15] : List Int32).take lT) = ([69, 68] : List Int32)))), .unset] []))
                    refine GoW.on (fun t k => XS.iconst Y151.here hx rfl (hb hby at_370) k) ?_
                    show GoW p.tables e below s _ _ _ _ _ (T151.setTop (mkF m 371 #[.val (.int p1), .val (.int p2), .val (.int p3), .val (.int p4), .val (.int bT), .val (.int bC), .val (.int (Int32.ofNat lT)), .val (.int (Int32.ofNat lC)), .val (.int nT), .val (.int nC), .val (.int (Int32.ofNat lR)), .val (.int cp), .val (.int r11), .val (.int r13), .val (.int r15), .val (.int r17), .val (.int r19), .val (.int r21), .val (.int (Int32.ofNat lC)), .val (.int r17), .val (.int r19), .val (.int r21), .val (.ref xs140), .val (.ref xs145), .val (.ref xs151), .val (.int (own_b ((([r11, r13, r15] : List Int32).take lT) = ([69, 68] : List Int32)))), .unset] [(.int (0 : Int32))]))
                    have eJ : own_b ((([r17, r19, r21] : List Int32).take lC) = (([r17, r19, r21] : List Int32).take lC)) = 0 := own_bf (fun q => ((own_tke hlC hlC).mp q).2.2.2.elim (fun z => hc356_166 z) (fun z => hc363_167 z))
                    rw [eJ] at kJ
                    exact kJ
              · refine GoW.on (fun t k => XS.icmpNo Y151.here hx rfl (hb hby at_343) rfl (flt hc343_165).1 k) ?_
                show GoW p.tables e below s _ _ _ _ _ (T151.setTop (mkF m 346 #[.val (.int p1), .val (.int p2), .val (.int p3), .val (.int p4), .val (.int bT), .val (.int bC), .val (.int (Int32.ofNat lT)), .val (.int (Int32.ofNat lC)), .val (.int nT), .val (.int nC), .val (.int (Int32.ofNat lR)), .val (.int cp), .val (.int r11), .val (.int r13), .val (.int r15), .val (.int r17), .val (.int r19), .val (.int r21), .val (.int (Int32.ofNat lC)), .val (.int r17), .val (.int r19), .val (.int r21), .val (.ref xs140), .val (.ref xs145), .val (.ref xs151), .val (.int (own_b ((([r11, r13, r15] : List Int32).take lT) = ([69, 68] : List Int32)))), .unset] []))
                refine GoW.on (fun t k => XS.iload Y151.here hx rfl (hb hby at_346) rfl (XS.iload Y151.here hx rfl (hb hby at_348) rfl k)) ?_
                show GoW p.tables e below s _ _ _ _ _ (T151.setTop (mkF m 350 #[.val (.int p1), .val (.int p2), .val (.int p3), .val (.int p4), .val (.int bT), .val (.int bC), .val (.int (Int32.ofNat lT)), .val (.int (Int32.ofNat lC)), .val (.int nT), .val (.int nC), .val (.int (Int32.ofNat lR)), .val (.int cp), .val (.int r11), .val (.int r13), .val (.int r15), .val (.int r17), .val (.int r19), .val (.int r21), .val (.int (Int32.ofNat lC)), .val (.int r17), .val (.int r19), .val (.int r21), .val (.ref xs140), .val (.ref xs145), .val (.ref xs151), .val (.int (own_b ((([r11, r13, r15] : List Int32).take lT) = ([69, 68] : List Int32)))), .unset] [(.int r19), (.int r19)]))
                by_cases hc350_168 : r19 = r19
                · refine GoW.on (fun t k => XS.icmpNo Y151.here hx rfl (hb hby at_350) rfl (teq hc350_168).2 k) ?_
                  show GoW p.tables e below s _ _ _ _ _ (T151.setTop (mkF m 353 #[.val (.int p1), .val (.int p2), .val (.int p3), .val (.int p4), .val (.int bT), .val (.int bC), .val (.int (Int32.ofNat lT)), .val (.int (Int32.ofNat lC)), .val (.int nT), .val (.int nC), .val (.int (Int32.ofNat lR)), .val (.int cp), .val (.int r11), .val (.int r13), .val (.int r15), .val (.int r17), .val (.int r19), .val (.int r21), .val (.int (Int32.ofNat lC)), .val (.int r17), .val (.int r19), .val (.int r21), .val (.ref xs140), .val (.ref xs145), .val (.ref xs151), .val (.int (own_b ((([r11, r13, r15] : List Int32).take lT) = ([69, 68] : List Int32)))), .unset] []))
                  refine GoW.on (fun t k => XS.iload Y151.here hx rfl (hb hby at_353) rfl (XS.iconst Y151.here hx rfl (hb hby at_355) k)) ?_
                  show GoW p.tables e below s _ _ _ _ _ (T151.setTop (mkF m 356 #[.val (.int p1), .val (.int p2), .val (.int p3), .val (.int p4), .val (.int bT), .val (.int bC), .val (.int (Int32.ofNat lT)), .val (.int (Int32.ofNat lC)), .val (.int nT), .val (.int nC), .val (.int (Int32.ofNat lR)), .val (.int cp), .val (.int r11), .val (.int r13), .val (.int r15), .val (.int r17), .val (.int r19), .val (.int r21), .val (.int (Int32.ofNat lC)), .val (.int r17), .val (.int r19), .val (.int r21), .val (.ref xs140), .val (.ref xs145), .val (.ref xs151), .val (.int (own_b ((([r11, r13, r15] : List Int32).take lT) = ([69, 68] : List Int32)))), .unset] [(.int (3 : Int32)), (.int (Int32.ofNat lC))]))
                  by_cases hc356_169 : (Int32.ofNat lC) < (3 : Int32)
                  · refine GoW.on (fun t k => XS.icmpYes Y151.here hx rfl (pc0 := 356) (pc' := 366) rfl (hb hby at_356) rfl (tlt hc356_169).1 (by decide) (by decide) k) ?_
                    show GoW p.tables e below s _ _ _ _ _ (T151.setTop (mkF m 366 #[.val (.int p1), .val (.int p2), .val (.int p3), .val (.int p4), .val (.int bT), .val (.int bC), .val (.int (Int32.ofNat lT)), .val (.int (Int32.ofNat lC)), .val (.int nT), .val (.int nC), .val (.int (Int32.ofNat lR)), .val (.int cp), .val (.int r11), .val (.int r13), .val (.int r15), .val (.int r17), .val (.int r19), .val (.int r21), .val (.int (Int32.ofNat lC)), .val (.int r17), .val (.int r19), .val (.int r21), .val (.ref xs140), .val (.ref xs145), .val (.ref xs151), .val (.int (own_b ((([r11, r13, r15] : List Int32).take lT) = ([69, 68] : List Int32)))), .unset] []))
                    refine GoW.on (fun t k => XS.iconst Y151.here hx rfl (hb hby at_366) (XS.goto Y151.here hx rfl (pc0 := 367) (pc' := 371) rfl (hb hby at_367) (by decide) (by decide) k)) ?_
                    show GoW p.tables e below s _ _ _ _ _ (T151.setTop (mkF m 371 #[.val (.int p1), .val (.int p2), .val (.int p3), .val (.int p4), .val (.int bT), .val (.int bC), .val (.int (Int32.ofNat lT)), .val (.int (Int32.ofNat lC)), .val (.int nT), .val (.int nC), .val (.int (Int32.ofNat lR)), .val (.int cp), .val (.int r11), .val (.int r13), .val (.int r15), .val (.int r17), .val (.int r19), .val (.int r21), .val (.int (Int32.ofNat lC)), .val (.int r17), .val (.int r19), .val (.int r21), .val (.ref xs140), .val (.ref xs145), .val (.ref xs151), .val (.int (own_b ((([r11, r13, r15] : List Int32).take lT) = ([69, 68] : List Int32)))), .unset] [(.int (1 : Int32))]))
                    have eJ : own_b ((([r17, r19, r21] : List Int32).take lC) = (([r17, r19, r21] : List Int32).take lC)) = 1 := own_bt ((own_tke hlC hlC).mpr ⟨hc324_163, Or.inl hc330_164, Or.inr hc350_168, Or.inl hc356_169⟩)
                    rw [eJ] at kJ
                    exact kJ
                  · refine GoW.on (fun t k => XS.icmpNo Y151.here hx rfl (hb hby at_356) rfl (flt hc356_169).1 k) ?_
                    show GoW p.tables e below s _ _ _ _ _ (T151.setTop (mkF m 359 #[.val (.int p1), .val (.int p2), .val (.int p3), .val (.int p4), .val (.int bT), .val (.int bC), .val (.int (Int32.ofNat lT)), .val (.int (Int32.ofNat lC)), .val (.int nT), .val (.int nC), .val (.int (Int32.ofNat lR)), .val (.int cp), .val (.int r11), .val (.int r13), .val (.int r15), .val (.int r17), .val (.int r19), .val (.int r21), .val (.int (Int32.ofNat lC)), .val (.int r17), .val (.int r19), .val (.int r21), .val (.ref xs140), .val (.ref xs145), .val (.ref xs151), .val (.int (own_b ((([r11, r13, r15] : List Int32).take lT) = ([69, 68] : List Int32)))), .unset] []))
                    refine GoW.on (fun t k => XS.iload Y151.here hx rfl (hb hby at_359) rfl (XS.iload Y151.here hx rfl (hb hby at_361) rfl k)) ?_
                    show GoW p.tables e below s _ _ _ _ _ (T151.setTop (mkF m 363 #[.val (.int p1), .val (.int p2), .val (.int p3), .val (.int p4), .val (.int bT), .val (.int bC), .val (.int (Int32.ofNat lT)), .val (.int (Int32.ofNat lC)), .val (.int nT), .val (.int nC), .val (.int (Int32.ofNat lR)), .val (.int cp), .val (.int r11), .val (.int r13), .val (.int r15), .val (.int r17), .val (.int r19), .val (.int r21), .val (.int (Int32.ofNat lC)), .val (.int r17), .val (.int r19), .val (.int r21), .val (.ref xs140), .val (.ref xs145), .val (.ref xs151), .val (.int (own_b ((([r11, r13, r15] : List Int32).take lT) = ([69, 68] : List Int32)))), .unset] [(.int r21), (.int r21)]))
                    by_cases hc363_170 : r21 = r21
                    · refine GoW.on (fun t k => XS.icmpNo Y151.here hx rfl (hb hby at_363) rfl (teq hc363_170).2 k) ?_
                      show GoW p.tables e below s _ _ _ _ _ (T151.setTop (mkF m 366 #[.val (.int p1), .val (.int p2), .val (.int p3), .val (.int p4), .val (.int bT), .val (.int bC), .val (.int (Int32.ofNat lT)), .val (.int (Int32.ofNat lC)), .val (.int nT), .val (.int nC), .val (.int (Int32.ofNat lR)), .val (.int cp), .val (.int r11), .val (.int r13), .val (.int r15), .val (.int r17), .val (.int r19), .val (.int r21), .val (.int (Int32.ofNat lC)), .val (.int r17), .val (.int r19), .val (.int r21), .val (.ref xs140), .val (.ref xs145), .val (.ref xs151), .val (.int (own_b ((([r11, r13, r15] : List Int32).take lT) = ([69, 68] : List Int32)))), .unset] []))
                      refine GoW.on (fun t k => XS.iconst Y151.here hx rfl (hb hby at_366) (XS.goto Y151.here hx rfl (pc0 := 367) (pc' := 371) rfl (hb hby at_367) (by decide) (by decide) k)) ?_
                      show GoW p.tables e below s _ _ _ _ _ (T151.setTop (mkF m 371 #[.val (.int p1), .val (.int p2), .val (.int p3), .val (.int p4), .val (.int bT), .val (.int bC), .val (.int (Int32.ofNat lT)), .val (.int (Int32.ofNat lC)), .val (.int nT), .val (.int nC), .val (.int (Int32.ofNat lR)), .val (.int cp), .val (.int r11), .val (.int r13), .val (.int r15), .val (.int r17), .val (.int r19), .val (.int r21), .val (.int (Int32.ofNat lC)), .val (.int r17), .val (.int r19), .val (.int r21), .val (.ref xs140), .val (.ref xs145), .val (.ref xs151), .val (.int (own_b ((([r11, r13, r15] : List Int32).take lT) = ([69, 68] : List Int32)))), .unset] [(.int (1 : Int32))]))
                      have eJ : own_b ((([r17, r19, r21] : List Int32).take lC) = (([r17, r19, r21] : List Int32).take lC)) = 1 := own_bt ((own_tke hlC hlC).mpr ⟨hc324_163, Or.inl hc330_164, Or.inr hc350_168, Or.inr hc363_170⟩)
                      rw [eJ] at kJ
                      exact kJ
                    · refine GoW.on (fun t k => XS.icmpYes Y151.here hx rfl (pc0 := 363) (pc' := 370) rfl (hb hby at_363) rfl (feq hc363_170).2 (by decide) (by decide) k) ?_
                      show GoW p.tables e below s _ _ _ _ _ (T151.setTop (mkF m 370 #[.val (.int p1), .val (.int p2), .val (.int p3), .val (.int p4), .val (.int bT), .val (.int bC), .val (.int (Int32.ofNat lT)), .val (.int (Int32.ofNat lC)), .val (.int nT), .val (.int nC), .val (.int (Int32.ofNat lR)), .val (.int cp), .val (.int r11), .val (.int r13), .val (.int r15), .val (.int r17), .val (.int r19), .val (.int r21), .val (.int (Int32.ofNat lC)), .val (.int r17), .val (.int r19), .val (.int r21), .val (.ref xs140), .val (.ref xs145), .val (.ref xs151), .val (.int (own_b ((([r11, r13, r15] : List Int32).take lT) = ([69, 68] : List Int32)))), .unset] []))
                      refine GoW.on (fun t k => XS.iconst Y151.here hx rfl (hb hby at_370) k) ?_
                      show GoW p.tables e below s _ _ _ _ _ (T151.setTop (mkF m 371 #[.val (.int p1), .val (.int p2), .val (.int p3), .val (.int p4), .val (.int bT), .val (.int bC), .val (.int (Int32.ofNat lT)), .val (.int (Int32.ofNat lC)), .val (.int nT), .val (.int nC), .val (.int (Int32.ofNat lR)), .val (.int cp), .val (.int r11), .val (.int r13), .val (.int r15), .val (.int r17), .val (.int r19), .val (.int r21), .val (.int (Int32.ofNat lC)), .val (.int r17), .val (.int r19), .val (.int r21), .val (.ref xs140), .val (.ref xs145), .val (.ref xs151), .val (.int (own_b ((([r11, r13, r15] : List Int32).take lT) = ([69, 68] : List Int32)))), .unset] [(.int (0 : Int32))]))
                      have eJ : own_b ((([r17, r19, r21] : List Int32).take lC) = (([r17, r19, r21] : List Int32).take lC)) = 0 := own_bf (fun q => ((own_tke hlC hlC).mp q).2.2.2.elim (fun z => hc356_169 z) (fun z => hc363_170 z))
                      rw [eJ] at kJ
                      exact kJ
                · refine GoW.on (fun t k => XS.icmpYes Y151.here hx rfl (pc0 := 350) (pc' := 370) rfl (hb hby at_350) rfl (feq hc350_168).2 (by decide) (by decide) k) ?_
                  show GoW p.tables e below s _ _ _ _ _ (T151.setTop (mkF m 370 #[.val (.int p1), .val (.int p2), .val (.int p3), .val (.int p4), .val (.int bT), .val (.int bC), .val (.int (Int32.ofNat lT)), .val (.int (Int32.ofNat lC)), .val (.int nT), .val (.int nC), .val (.int (Int32.ofNat lR)), .val (.int cp), .val (.int r11), .val (.int r13), .val (.int r15), .val (.int r17), .val (.int r19), .val (.int r21), .val (.int (Int32.ofNat lC)), .val (.int r17), .val (.int r19), .val (.int r21), .val (.ref xs140), .val (.ref xs145), .val (.ref xs151), .val (.int (own_b ((([r11, r13, r15] : List Int32).take lT) = ([69, 68] : List Int32)))), .unset] []))
                  refine GoW.on (fun t k => XS.iconst Y151.here hx rfl (hb hby at_370) k) ?_
                  show GoW p.tables e below s _ _ _ _ _ (T151.setTop (mkF m 371 #[.val (.int p1), .val (.int p2), .val (.int p3), .val (.int p4), .val (.int bT), .val (.int bC), .val (.int (Int32.ofNat lT)), .val (.int (Int32.ofNat lC)), .val (.int nT), .val (.int nC), .val (.int (Int32.ofNat lR)), .val (.int cp), .val (.int r11), .val (.int r13), .val (.int r15), .val (.int r17), .val (.int r19), .val (.int r21), .val (.int (Int32.ofNat lC)), .val (.int r17), .val (.int r19), .val (.int r21), .val (.ref xs140), .val (.ref xs145), .val (.ref xs151), .val (.int (own_b ((([r11, r13, r15] : List Int32).take lT) = ([69, 68] : List Int32)))), .unset] [(.int (0 : Int32))]))
                  have eJ : own_b ((([r17, r19, r21] : List Int32).take lC) = (([r17, r19, r21] : List Int32).take lC)) = 0 := own_bf (fun q => ((own_tke hlC hlC).mp q).2.2.1.elim (fun z => hc343_165 z) (fun z => hc350_168 z))
                  rw [eJ] at kJ
                  exact kJ
            · refine GoW.on (fun t k => XS.icmpNo Y151.here hx rfl (hb hby at_330) rfl (flt hc330_164).1 k) ?_
              show GoW p.tables e below s _ _ _ _ _ (T151.setTop (mkF m 333 #[.val (.int p1), .val (.int p2), .val (.int p3), .val (.int p4), .val (.int bT), .val (.int bC), .val (.int (Int32.ofNat lT)), .val (.int (Int32.ofNat lC)), .val (.int nT), .val (.int nC), .val (.int (Int32.ofNat lR)), .val (.int cp), .val (.int r11), .val (.int r13), .val (.int r15), .val (.int r17), .val (.int r19), .val (.int r21), .val (.int (Int32.ofNat lC)), .val (.int r17), .val (.int r19), .val (.int r21), .val (.ref xs140), .val (.ref xs145), .val (.ref xs151), .val (.int (own_b ((([r11, r13, r15] : List Int32).take lT) = ([69, 68] : List Int32)))), .unset] []))
              refine GoW.on (fun t k => XS.iload Y151.here hx rfl (hb hby at_333) rfl (XS.iload Y151.here hx rfl (hb hby at_335) rfl k)) ?_
              show GoW p.tables e below s _ _ _ _ _ (T151.setTop (mkF m 337 #[.val (.int p1), .val (.int p2), .val (.int p3), .val (.int p4), .val (.int bT), .val (.int bC), .val (.int (Int32.ofNat lT)), .val (.int (Int32.ofNat lC)), .val (.int nT), .val (.int nC), .val (.int (Int32.ofNat lR)), .val (.int cp), .val (.int r11), .val (.int r13), .val (.int r15), .val (.int r17), .val (.int r19), .val (.int r21), .val (.int (Int32.ofNat lC)), .val (.int r17), .val (.int r19), .val (.int r21), .val (.ref xs140), .val (.ref xs145), .val (.ref xs151), .val (.int (own_b ((([r11, r13, r15] : List Int32).take lT) = ([69, 68] : List Int32)))), .unset] [(.int r17), (.int r17)]))
              by_cases hc337_171 : r17 = r17
              · refine GoW.on (fun t k => XS.icmpNo Y151.here hx rfl (hb hby at_337) rfl (teq hc337_171).2 k) ?_
                show GoW p.tables e below s _ _ _ _ _ (T151.setTop (mkF m 340 #[.val (.int p1), .val (.int p2), .val (.int p3), .val (.int p4), .val (.int bT), .val (.int bC), .val (.int (Int32.ofNat lT)), .val (.int (Int32.ofNat lC)), .val (.int nT), .val (.int nC), .val (.int (Int32.ofNat lR)), .val (.int cp), .val (.int r11), .val (.int r13), .val (.int r15), .val (.int r17), .val (.int r19), .val (.int r21), .val (.int (Int32.ofNat lC)), .val (.int r17), .val (.int r19), .val (.int r21), .val (.ref xs140), .val (.ref xs145), .val (.ref xs151), .val (.int (own_b ((([r11, r13, r15] : List Int32).take lT) = ([69, 68] : List Int32)))), .unset] []))
                refine GoW.on (fun t k => XS.iload Y151.here hx rfl (hb hby at_340) rfl (XS.iconst Y151.here hx rfl (hb hby at_342) k)) ?_
                show GoW p.tables e below s _ _ _ _ _ (T151.setTop (mkF m 343 #[.val (.int p1), .val (.int p2), .val (.int p3), .val (.int p4), .val (.int bT), .val (.int bC), .val (.int (Int32.ofNat lT)), .val (.int (Int32.ofNat lC)), .val (.int nT), .val (.int nC), .val (.int (Int32.ofNat lR)), .val (.int cp), .val (.int r11), .val (.int r13), .val (.int r15), .val (.int r17), .val (.int r19), .val (.int r21), .val (.int (Int32.ofNat lC)), .val (.int r17), .val (.int r19), .val (.int r21), .val (.ref xs140), .val (.ref xs145), .val (.ref xs151), .val (.int (own_b ((([r11, r13, r15] : List Int32).take lT) = ([69, 68] : List Int32)))), .unset] [(.int (2 : Int32)), (.int (Int32.ofNat lC))]))
                by_cases hc343_172 : (Int32.ofNat lC) < (2 : Int32)
                · refine GoW.on (fun t k => XS.icmpYes Y151.here hx rfl (pc0 := 343) (pc' := 353) rfl (hb hby at_343) rfl (tlt hc343_172).1 (by decide) (by decide) k) ?_
                  show GoW p.tables e below s _ _ _ _ _ (T151.setTop (mkF m 353 #[.val (.int p1), .val (.int p2), .val (.int p3), .val (.int p4), .val (.int bT), .val (.int bC), .val (.int (Int32.ofNat lT)), .val (.int (Int32.ofNat lC)), .val (.int nT), .val (.int nC), .val (.int (Int32.ofNat lR)), .val (.int cp), .val (.int r11), .val (.int r13), .val (.int r15), .val (.int r17), .val (.int r19), .val (.int r21), .val (.int (Int32.ofNat lC)), .val (.int r17), .val (.int r19), .val (.int r21), .val (.ref xs140), .val (.ref xs145), .val (.ref xs151), .val (.int (own_b ((([r11, r13, r15] : List Int32).take lT) = ([69, 68] : List Int32)))), .unset] []))
                  refine GoW.on (fun t k => XS.iload Y151.here hx rfl (hb hby at_353) rfl (XS.iconst Y151.here hx rfl (hb hby at_355) k)) ?_
                  show GoW p.tables e below s _ _ _ _ _ (T151.setTop (mkF m 356 #[.val (.int p1), .val (.int p2), .val (.int p3), .val (.int p4), .val (.int bT), .val (.int bC), .val (.int (Int32.ofNat lT)), .val (.int (Int32.ofNat lC)), .val (.int nT), .val (.int nC), .val (.int (Int32.ofNat lR)), .val (.int cp), .val (.int r11), .val (.int r13), .val (.int r15), .val (.int r17), .val (.int r19), .val (.int r21), .val (.int (Int32.ofNat lC)), .val (.int r17), .val (.int r19), .val (.int r21), .val (.ref xs140), .val (.ref xs145), .val (.ref xs151), .val (.int (own_b ((([r11, r13, r15] : List Int32).take lT) = ([69, 68] : List Int32)))), .unset] [(.int (3 : Int32)), (.int (Int32.ofNat lC))]))
                  by_cases hc356_173 : (Int32.ofNat lC) < (3 : Int32)
                  · refine GoW.on (fun t k => XS.icmpYes Y151.here hx rfl (pc0 := 356) (pc' := 366) rfl (hb hby at_356) rfl (tlt hc356_173).1 (by decide) (by decide) k) ?_
                    show GoW p.tables e below s _ _ _ _ _ (T151.setTop (mkF m 366 #[.val (.int p1), .val (.int p2), .val (.int p3), .val (.int p4), .val (.int bT), .val (.int bC), .val (.int (Int32.ofNat lT)), .val (.int (Int32.ofNat lC)), .val (.int nT), .val (.int nC), .val (.int (Int32.ofNat lR)), .val (.int cp), .val (.int r11), .val (.int r13), .val (.int r15), .val (.int r17), .val (.int r19), .val (.int r21), .val (.int (Int32.ofNat lC)), .val (.int r17), .val (.int r19), .val (.int r21), .val (.ref xs140), .val (.ref xs145), .val (.ref xs151), .val (.int (own_b ((([r11, r13, r15] : List Int32).take lT) = ([69, 68] : List Int32)))), .unset] []))
                    refine GoW.on (fun t k => XS.iconst Y151.here hx rfl (hb hby at_366) (XS.goto Y151.here hx rfl (pc0 := 367) (pc' := 371) rfl (hb hby at_367) (by decide) (by decide) k)) ?_
                    show GoW p.tables e below s _ _ _ _ _ (T151.setTop (mkF m 371 #[.val (.int p1), .val (.int p2), .val (.int p3), .val (.int p4), .val (.int bT), .val (.int bC), .val (.int (Int32.ofNat lT)), .val (.int (Int32.ofNat lC)), .val (.int nT), .val (.int nC), .val (.int (Int32.ofNat lR)), .val (.int cp), .val (.int r11), .val (.int r13), .val (.int r15), .val (.int r17), .val (.int r19), .val (.int r21), .val (.int (Int32.ofNat lC)), .val (.int r17), .val (.int r19), .val (.int r21), .val (.ref xs140), .val (.ref xs145), .val (.ref xs151), .val (.int (own_b ((([r11, r13, r15] : List Int32).take lT) = ([69, 68] : List Int32)))), .unset] [(.int (1 : Int32))]))
                    have eJ : own_b ((([r17, r19, r21] : List Int32).take lC) = (([r17, r19, r21] : List Int32).take lC)) = 1 := own_bt ((own_tke hlC hlC).mpr ⟨hc324_163, Or.inr hc337_171, Or.inl hc343_172, Or.inl hc356_173⟩)
                    rw [eJ] at kJ
                    exact kJ
                  · refine GoW.on (fun t k => XS.icmpNo Y151.here hx rfl (hb hby at_356) rfl (flt hc356_173).1 k) ?_
                    show GoW p.tables e below s _ _ _ _ _ (T151.setTop (mkF m 359 #[.val (.int p1), .val (.int p2), .val (.int p3), .val (.int p4), .val (.int bT), .val (.int bC), .val (.int (Int32.ofNat lT)), .val (.int (Int32.ofNat lC)), .val (.int nT), .val (.int nC), .val (.int (Int32.ofNat lR)), .val (.int cp), .val (.int r11), .val (.int r13), .val (.int r15), .val (.int r17), .val (.int r19), .val (.int r21), .val (.int (Int32.ofNat lC)), .val (.int r17), .val (.int r19), .val (.int r21), .val (.ref xs140), .val (.ref xs145), .val (.ref xs151), .val (.int (own_b ((([r11, r13, r15] : List Int32).take lT) = ([69, 68] : List Int32)))), .unset] []))
                    refine GoW.on (fun t k => XS.iload Y151.here hx rfl (hb hby at_359) rfl (XS.iload Y151.here hx rfl (hb hby at_361) rfl k)) ?_
                    show GoW p.tables e below s _ _ _ _ _ (T151.setTop (mkF m 363 #[.val (.int p1), .val (.int p2), .val (.int p3), .val (.int p4), .val (.int bT), .val (.int bC), .val (.int (Int32.ofNat lT)), .val (.int (Int32.ofNat lC)), .val (.int nT), .val (.int nC), .val (.int (Int32.ofNat lR)), .val (.int cp), .val (.int r11), .val (.int r13), .val (.int r15), .val (.int r17), .val (.int r19), .val (.int r21), .val (.int (Int32.ofNat lC)), .val (.int r17), .val (.int r19), .val (.int r21), .val (.ref xs140), .val (.ref xs145), .val (.ref xs151), .val (.int (own_b ((([r11, r13, r15] : List Int32).take lT) = ([69, 68] : List Int32)))), .unset] [(.int r21), (.int r21)]))
                    by_cases hc363_174 : r21 = r21
                    · refine GoW.on (fun t k => XS.icmpNo Y151.here hx rfl (hb hby at_363) rfl (teq hc363_174).2 k) ?_
                      show GoW p.tables e below s _ _ _ _ _ (T151.setTop (mkF m 366 #[.val (.int p1), .val (.int p2), .val (.int p3), .val (.int p4), .val (.int bT), .val (.int bC), .val (.int (Int32.ofNat lT)), .val (.int (Int32.ofNat lC)), .val (.int nT), .val (.int nC), .val (.int (Int32.ofNat lR)), .val (.int cp), .val (.int r11), .val (.int r13), .val (.int r15), .val (.int r17), .val (.int r19), .val (.int r21), .val (.int (Int32.ofNat lC)), .val (.int r17), .val (.int r19), .val (.int r21), .val (.ref xs140), .val (.ref xs145), .val (.ref xs151), .val (.int (own_b ((([r11, r13, r15] : List Int32).take lT) = ([69, 68] : List Int32)))), .unset] []))
                      refine GoW.on (fun t k => XS.iconst Y151.here hx rfl (hb hby at_366) (XS.goto Y151.here hx rfl (pc0 := 367) (pc' := 371) rfl (hb hby at_367) (by decide) (by decide) k)) ?_
                      show GoW p.tables e below s _ _ _ _ _ (T151.setTop (mkF m 371 #[.val (.int p1), .val (.int p2), .val (.int p3), .val (.int p4), .val (.int bT), .val (.int bC), .val (.int (Int32.ofNat lT)), .val (.int (Int32.ofNat lC)), .val (.int nT), .val (.int nC), .val (.int (Int32.ofNat lR)), .val (.int cp), .val (.int r11), .val (.int r13), .val (.int r15), .val (.int r17), .val (.int r19), .val (.int r21), .val (.int (Int32.ofNat lC)), .val (.int r17), .val (.int r19), .val (.int r21), .val (.ref xs140), .val (.ref xs145), .val (.ref xs151), .val (.int (own_b ((([r11, r13, r15] : List Int32).take lT) = ([69, 68] : List Int32)))), .unset] [(.int (1 : Int32))]))
                      have eJ : own_b ((([r17, r19, r21] : List Int32).take lC) = (([r17, r19, r21] : List Int32).take lC)) = 1 := own_bt ((own_tke hlC hlC).mpr ⟨hc324_163, Or.inr hc337_171, Or.inl hc343_172, Or.inr hc363_174⟩)
                      rw [eJ] at kJ
                      exact kJ
                    · refine GoW.on (fun t k => XS.icmpYes Y151.here hx rfl (pc0 := 363) (pc' := 370) rfl (hb hby at_363) rfl (feq hc363_174).2 (by decide) (by decide) k) ?_
                      show GoW p.tables e below s _ _ _ _ _ (T151.setTop (mkF m 370 #[.val (.int p1), .val (.int p2), .val (.int p3), .val (.int p4), .val (.int bT), .val (.int bC), .val (.int (Int32.ofNat lT)), .val (.int (Int32.ofNat lC)), .val (.int nT), .val (.int nC), .val (.int (Int32.ofNat lR)), .val (.int cp), .val (.int r11), .val (.int r13), .val (.int r15), .val (.int r17), .val (.int r19), .val (.int r21), .val (.int (Int32.ofNat lC)), .val (.int r17), .val (.int r19), .val (.int r21), .val (.ref xs140), .val (.ref xs145), .val (.ref xs151), .val (.int (own_b ((([r11, r13, r15] : List Int32).take lT) = ([69, 68] : List Int32)))), .unset] []))
                      refine GoW.on (fun t k => XS.iconst Y151.here hx rfl (hb hby at_370) k) ?_
                      show GoW p.tables e below s _ _ _ _ _ (T151.setTop (mkF m 371 #[.val (.int p1), .val (.int p2), .val (.int p3), .val (.int p4), .val (.int bT), .val (.int bC), .val (.int (Int32.ofNat lT)), .val (.int (Int32.ofNat lC)), .val (.int nT), .val (.int nC), .val (.int (Int32.ofNat lR)), .val (.int cp), .val (.int r11), .val (.int r13), .val (.int r15), .val (.int r17), .val (.int r19), .val (.int r21), .val (.int (Int32.ofNat lC)), .val (.int r17), .val (.int r19), .val (.int r21), .val (.ref xs140), .val (.ref xs145), .val (.ref xs151), .val (.int (own_b ((([r11, r13, r15] : List Int32).take lT) = ([69, 68] : List Int32)))), .unset] [(.int (0 : Int32))]))
                      have eJ : own_b ((([r17, r19, r21] : List Int32).take lC) = (([r17, r19, r21] : List Int32).take lC)) = 0 := own_bf (fun q => ((own_tke hlC hlC).mp q).2.2.2.elim (fun z => hc356_173 z) (fun z => hc363_174 z))
                      rw [eJ] at kJ
                      exact kJ
                · refine GoW.on (fun t k => XS.icmpNo Y151.here hx rfl (hb hby at_343) rfl (flt hc343_172).1 k) ?_
                  show GoW p.tables e below s _ _ _ _ _ (T151.setTop (mkF m 346 #[.val (.int p1), .val (.int p2), .val (.int p3), .val (.int p4), .val (.int bT), .val (.int bC), .val (.int (Int32.ofNat lT)), .val (.int (Int32.ofNat lC)), .val (.int nT), .val (.int nC), .val (.int (Int32.ofNat lR)), .val (.int cp), .val (.int r11), .val (.int r13), .val (.int r15), .val (.int r17), .val (.int r19), .val (.int r21), .val (.int (Int32.ofNat lC)), .val (.int r17), .val (.int r19), .val (.int r21), .val (.ref xs140), .val (.ref xs145), .val (.ref xs151), .val (.int (own_b ((([r11, r13, r15] : List Int32).take lT) = ([69, 68] : List Int32)))), .unset] []))
                  refine GoW.on (fun t k => XS.iload Y151.here hx rfl (hb hby at_346) rfl (XS.iload Y151.here hx rfl (hb hby at_348) rfl k)) ?_
                  show GoW p.tables e below s _ _ _ _ _ (T151.setTop (mkF m 350 #[.val (.int p1), .val (.int p2), .val (.int p3), .val (.int p4), .val (.int bT), .val (.int bC), .val (.int (Int32.ofNat lT)), .val (.int (Int32.ofNat lC)), .val (.int nT), .val (.int nC), .val (.int (Int32.ofNat lR)), .val (.int cp), .val (.int r11), .val (.int r13), .val (.int r15), .val (.int r17), .val (.int r19), .val (.int r21), .val (.int (Int32.ofNat lC)), .val (.int r17), .val (.int r19), .val (.int r21), .val (.ref xs140), .val (.ref xs145), .val (.ref xs151), .val (.int (own_b ((([r11, r13, r15] : List Int32).take lT) = ([69, 68] : List Int32)))), .unset] [(.int r19), (.int r19)]))
                  by_cases hc350_175 : r19 = r19
                  · refine GoW.on (fun t k => XS.icmpNo Y151.here hx rfl (hb hby at_350) rfl (teq hc350_175).2 k) ?_
                    show GoW p.tables e below s _ _ _ _ _ (T151.setTop (mkF m 353 #[.val (.int p1), .val (.int p2), .val (.int p3), .val (.int p4), .val (.int bT), .val (.int bC), .val (.int (Int32.ofNat lT)), .val (.int (Int32.ofNat lC)), .val (.int nT), .val (.int nC), .val (.int (Int32.ofNat lR)), .val (.int cp), .val (.int r11), .val (.int r13), .val (.int r15), .val (.int r17), .val (.int r19), .val (.int r21), .val (.int (Int32.ofNat lC)), .val (.int r17), .val (.int r19), .val (.int r21), .val (.ref xs140), .val (.ref xs145), .val (.ref xs151), .val (.int (own_b ((([r11, r13, r15] : List Int32).take lT) = ([69, 68] : List Int32)))), .unset] []))
                    refine GoW.on (fun t k => XS.iload Y151.here hx rfl (hb hby at_353) rfl (XS.iconst Y151.here hx rfl (hb hby at_355) k)) ?_
                    show GoW p.tables e below s _ _ _ _ _ (T151.setTop (mkF m 356 #[.val (.int p1), .val (.int p2), .val (.int p3), .val (.int p4), .val (.int bT), .val (.int bC), .val (.int (Int32.ofNat lT)), .val (.int (Int32.ofNat lC)), .val (.int nT), .val (.int nC), .val (.int (Int32.ofNat lR)), .val (.int cp), .val (.int r11), .val (.int r13), .val (.int r15), .val (.int r17), .val (.int r19), .val (.int r21), .val (.int (Int32.ofNat lC)), .val (.int r17), .val (.int r19), .val (.int r21), .val (.ref xs140), .val (.ref xs145), .val (.ref xs151), .val (.int (own_b ((([r11, r13, r15] : List Int32).take lT) = ([69, 68] : List Int32)))), .unset] [(.int (3 : Int32)), (.int (Int32.ofNat lC))]))
                    by_cases hc356_176 : (Int32.ofNat lC) < (3 : Int32)
                    · refine GoW.on (fun t k => XS.icmpYes Y151.here hx rfl (pc0 := 356) (pc' := 366) rfl (hb hby at_356) rfl (tlt hc356_176).1 (by decide) (by decide) k) ?_
                      show GoW p.tables e below s _ _ _ _ _ (T151.setTop (mkF m 366 #[.val (.int p1), .val (.int p2), .val (.int p3), .val (.int p4), .val (.int bT), .val (.int bC), .val (.int (Int32.ofNat lT)), .val (.int (Int32.ofNat lC)), .val (.int nT), .val (.int nC), .val (.int (Int32.ofNat lR)), .val (.int cp), .val (.int r11), .val (.int r13), .val (.int r15), .val (.int r17), .val (.int r19), .val (.int r21), .val (.int (Int32.ofNat lC)), .val (.int r17), .val (.int r19), .val (.int r21), .val (.ref xs140), .val (.ref xs145), .val (.ref xs151), .val (.int (own_b ((([r11, r13, r15] : List Int32).take lT) = ([69, 68] : List Int32)))), .unset] []))
                      refine GoW.on (fun t k => XS.iconst Y151.here hx rfl (hb hby at_366) (XS.goto Y151.here hx rfl (pc0 := 367) (pc' := 371) rfl (hb hby at_367) (by decide) (by decide) k)) ?_
                      show GoW p.tables e below s _ _ _ _ _ (T151.setTop (mkF m 371 #[.val (.int p1), .val (.int p2), .val (.int p3), .val (.int p4), .val (.int bT), .val (.int bC), .val (.int (Int32.ofNat lT)), .val (.int (Int32.ofNat lC)), .val (.int nT), .val (.int nC), .val (.int (Int32.ofNat lR)), .val (.int cp), .val (.int r11), .val (.int r13), .val (.int r15), .val (.int r17), .val (.int r19), .val (.int r21), .val (.int (Int32.ofNat lC)), .val (.int r17), .val (.int r19), .val (.int r21), .val (.ref xs140), .val (.ref xs145), .val (.ref xs151), .val (.int (own_b ((([r11, r13, r15] : List Int32).take lT) = ([69, 68] : List Int32)))), .unset] [(.int (1 : Int32))]))
                      have eJ : own_b ((([r17, r19, r21] : List Int32).take lC) = (([r17, r19, r21] : List Int32).take lC)) = 1 := own_bt ((own_tke hlC hlC).mpr ⟨hc324_163, Or.inr hc337_171, Or.inr hc350_175, Or.inl hc356_176⟩)
                      rw [eJ] at kJ
                      exact kJ
                    · refine GoW.on (fun t k => XS.icmpNo Y151.here hx rfl (hb hby at_356) rfl (flt hc356_176).1 k) ?_
                      show GoW p.tables e below s _ _ _ _ _ (T151.setTop (mkF m 359 #[.val (.int p1), .val (.int p2), .val (.int p3), .val (.int p4), .val (.int bT), .val (.int bC), .val (.int (Int32.ofNat lT)), .val (.int (Int32.ofNat lC)), .val (.int nT), .val (.int nC), .val (.int (Int32.ofNat lR)), .val (.int cp), .val (.int r11), .val (.int r13), .val (.int r15), .val (.int r17), .val (.int r19), .val (.int r21), .val (.int (Int32.ofNat lC)), .val (.int r17), .val (.int r19), .val (.int r21), .val (.ref xs140), .val (.ref xs145), .val (.ref xs151), .val (.int (own_b ((([r11, r13, r15] : List Int32).take lT) = ([69, 68] : List Int32)))), .unset] []))
                      refine GoW.on (fun t k => XS.iload Y151.here hx rfl (hb hby at_359) rfl (XS.iload Y151.here hx rfl (hb hby at_361) rfl k)) ?_
                      show GoW p.tables e below s _ _ _ _ _ (T151.setTop (mkF m 363 #[.val (.int p1), .val (.int p2), .val (.int p3), .val (.int p4), .val (.int bT), .val (.int bC), .val (.int (Int32.ofNat lT)), .val (.int (Int32.ofNat lC)), .val (.int nT), .val (.int nC), .val (.int (Int32.ofNat lR)), .val (.int cp), .val (.int r11), .val (.int r13), .val (.int r15), .val (.int r17), .val (.int r19), .val (.int r21), .val (.int (Int32.ofNat lC)), .val (.int r17), .val (.int r19), .val (.int r21), .val (.ref xs140), .val (.ref xs145), .val (.ref xs151), .val (.int (own_b ((([r11, r13, r15] : List Int32).take lT) = ([69, 68] : List Int32)))), .unset] [(.int r21), (.int r21)]))
                      by_cases hc363_177 : r21 = r21
                      · refine GoW.on (fun t k => XS.icmpNo Y151.here hx rfl (hb hby at_363) rfl (teq hc363_177).2 k) ?_
                        show GoW p.tables e below s _ _ _ _ _ (T151.setTop (mkF m 366 #[.val (.int p1), .val (.int p2), .val (.int p3), .val (.int p4), .val (.int bT), .val (.int bC), .val (.int (Int32.ofNat lT)), .val (.int (Int32.ofNat lC)), .val (.int nT), .val (.int nC), .val (.int (Int32.ofNat lR)), .val (.int cp), .val (.int r11), .val (.int r13), .val (.int r15), .val (.int r17), .val (.int r19), .val (.int r21), .val (.int (Int32.ofNat lC)), .val (.int r17), .val (.int r19), .val (.int r21), .val (.ref xs140), .val (.ref xs145), .val (.ref xs151), .val (.int (own_b ((([r11, r13, r15] : List Int32).take lT) = ([69, 68] : List Int32)))), .unset] []))
                        refine GoW.on (fun t k => XS.iconst Y151.here hx rfl (hb hby at_366) (XS.goto Y151.here hx rfl (pc0 := 367) (pc' := 371) rfl (hb hby at_367) (by decide) (by decide) k)) ?_
                        show GoW p.tables e below s _ _ _ _ _ (T151.setTop (mkF m 371 #[.val (.int p1), .val (.int p2), .val (.int p3), .val (.int p4), .val (.int bT), .val (.int bC), .val (.int (Int32.ofNat lT)), .val (.int (Int32.ofNat lC)), .val (.int nT), .val (.int nC), .val (.int (Int32.ofNat lR)), .val (.int cp), .val (.int r11), .val (.int r13), .val (.int r15), .val (.int r17), .val (.int r19), .val (.int r21), .val (.int (Int32.ofNat lC)), .val (.int r17), .val (.int r19), .val (.int r21), .val (.ref xs140), .val (.ref xs145), .val (.ref xs151), .val (.int (own_b ((([r11, r13, r15] : List Int32).take lT) = ([69, 68] : List Int32)))), .unset] [(.int (1 : Int32))]))
                        have eJ : own_b ((([r17, r19, r21] : List Int32).take lC) = (([r17, r19, r21] : List Int32).take lC)) = 1 := own_bt ((own_tke hlC hlC).mpr ⟨hc324_163, Or.inr hc337_171, Or.inr hc350_175, Or.inr hc363_177⟩)
                        rw [eJ] at kJ
                        exact kJ
                      · refine GoW.on (fun t k => XS.icmpYes Y151.here hx rfl (pc0 := 363) (pc' := 370) rfl (hb hby at_363) rfl (feq hc363_177).2 (by decide) (by decide) k) ?_
                        show GoW p.tables e below s _ _ _ _ _ (T151.setTop (mkF m 370 #[.val (.int p1), .val (.int p2), .val (.int p3), .val (.int p4), .val (.int bT), .val (.int bC), .val (.int (Int32.ofNat lT)), .val (.int (Int32.ofNat lC)), .val (.int nT), .val (.int nC), .val (.int (Int32.ofNat lR)), .val (.int cp), .val (.int r11), .val (.int r13), .val (.int r15), .val (.int r17), .val (.int r19), .val (.int r21), .val (.int (Int32.ofNat lC)), .val (.int r17), .val (.int r19), .val (.int r21), .val (.ref xs140), .val (.ref xs145), .val (.ref xs151), .val (.int (own_b ((([r11, r13, r15] : List Int32).take lT) = ([69, 68] : List Int32)))), .unset] []))
                        refine GoW.on (fun t k => XS.iconst Y151.here hx rfl (hb hby at_370) k) ?_
                        show GoW p.tables e below s _ _ _ _ _ (T151.setTop (mkF m 371 #[.val (.int p1), .val (.int p2), .val (.int p3), .val (.int p4), .val (.int bT), .val (.int bC), .val (.int (Int32.ofNat lT)), .val (.int (Int32.ofNat lC)), .val (.int nT), .val (.int nC), .val (.int (Int32.ofNat lR)), .val (.int cp), .val (.int r11), .val (.int r13), .val (.int r15), .val (.int r17), .val (.int r19), .val (.int r21), .val (.int (Int32.ofNat lC)), .val (.int r17), .val (.int r19), .val (.int r21), .val (.ref xs140), .val (.ref xs145), .val (.ref xs151), .val (.int (own_b ((([r11, r13, r15] : List Int32).take lT) = ([69, 68] : List Int32)))), .unset] [(.int (0 : Int32))]))
                        have eJ : own_b ((([r17, r19, r21] : List Int32).take lC) = (([r17, r19, r21] : List Int32).take lC)) = 0 := own_bf (fun q => ((own_tke hlC hlC).mp q).2.2.2.elim (fun z => hc356_176 z) (fun z => hc363_177 z))
                        rw [eJ] at kJ
                        exact kJ
                  · refine GoW.on (fun t k => XS.icmpYes Y151.here hx rfl (pc0 := 350) (pc' := 370) rfl (hb hby at_350) rfl (feq hc350_175).2 (by decide) (by decide) k) ?_
                    show GoW p.tables e below s _ _ _ _ _ (T151.setTop (mkF m 370 #[.val (.int p1), .val (.int p2), .val (.int p3), .val (.int p4), .val (.int bT), .val (.int bC), .val (.int (Int32.ofNat lT)), .val (.int (Int32.ofNat lC)), .val (.int nT), .val (.int nC), .val (.int (Int32.ofNat lR)), .val (.int cp), .val (.int r11), .val (.int r13), .val (.int r15), .val (.int r17), .val (.int r19), .val (.int r21), .val (.int (Int32.ofNat lC)), .val (.int r17), .val (.int r19), .val (.int r21), .val (.ref xs140), .val (.ref xs145), .val (.ref xs151), .val (.int (own_b ((([r11, r13, r15] : List Int32).take lT) = ([69, 68] : List Int32)))), .unset] []))
                    refine GoW.on (fun t k => XS.iconst Y151.here hx rfl (hb hby at_370) k) ?_
                    show GoW p.tables e below s _ _ _ _ _ (T151.setTop (mkF m 371 #[.val (.int p1), .val (.int p2), .val (.int p3), .val (.int p4), .val (.int bT), .val (.int bC), .val (.int (Int32.ofNat lT)), .val (.int (Int32.ofNat lC)), .val (.int nT), .val (.int nC), .val (.int (Int32.ofNat lR)), .val (.int cp), .val (.int r11), .val (.int r13), .val (.int r15), .val (.int r17), .val (.int r19), .val (.int r21), .val (.int (Int32.ofNat lC)), .val (.int r17), .val (.int r19), .val (.int r21), .val (.ref xs140), .val (.ref xs145), .val (.ref xs151), .val (.int (own_b ((([r11, r13, r15] : List Int32).take lT) = ([69, 68] : List Int32)))), .unset] [(.int (0 : Int32))]))
                    have eJ : own_b ((([r17, r19, r21] : List Int32).take lC) = (([r17, r19, r21] : List Int32).take lC)) = 0 := own_bf (fun q => ((own_tke hlC hlC).mp q).2.2.1.elim (fun z => hc343_172 z) (fun z => hc350_175 z))
                    rw [eJ] at kJ
                    exact kJ
              · refine GoW.on (fun t k => XS.icmpYes Y151.here hx rfl (pc0 := 337) (pc' := 370) rfl (hb hby at_337) rfl (feq hc337_171).2 (by decide) (by decide) k) ?_
                show GoW p.tables e below s _ _ _ _ _ (T151.setTop (mkF m 370 #[.val (.int p1), .val (.int p2), .val (.int p3), .val (.int p4), .val (.int bT), .val (.int bC), .val (.int (Int32.ofNat lT)), .val (.int (Int32.ofNat lC)), .val (.int nT), .val (.int nC), .val (.int (Int32.ofNat lR)), .val (.int cp), .val (.int r11), .val (.int r13), .val (.int r15), .val (.int r17), .val (.int r19), .val (.int r21), .val (.int (Int32.ofNat lC)), .val (.int r17), .val (.int r19), .val (.int r21), .val (.ref xs140), .val (.ref xs145), .val (.ref xs151), .val (.int (own_b ((([r11, r13, r15] : List Int32).take lT) = ([69, 68] : List Int32)))), .unset] []))
                refine GoW.on (fun t k => XS.iconst Y151.here hx rfl (hb hby at_370) k) ?_
                show GoW p.tables e below s _ _ _ _ _ (T151.setTop (mkF m 371 #[.val (.int p1), .val (.int p2), .val (.int p3), .val (.int p4), .val (.int bT), .val (.int bC), .val (.int (Int32.ofNat lT)), .val (.int (Int32.ofNat lC)), .val (.int nT), .val (.int nC), .val (.int (Int32.ofNat lR)), .val (.int cp), .val (.int r11), .val (.int r13), .val (.int r15), .val (.int r17), .val (.int r19), .val (.int r21), .val (.int (Int32.ofNat lC)), .val (.int r17), .val (.int r19), .val (.int r21), .val (.ref xs140), .val (.ref xs145), .val (.ref xs151), .val (.int (own_b ((([r11, r13, r15] : List Int32).take lT) = ([69, 68] : List Int32)))), .unset] [(.int (0 : Int32))]))
                have eJ : own_b ((([r17, r19, r21] : List Int32).take lC) = (([r17, r19, r21] : List Int32).take lC)) = 0 := own_bf (fun q => ((own_tke hlC hlC).mp q).2.1.elim (fun z => hc330_164 z) (fun z => hc337_171 z))
                rw [eJ] at kJ
                exact kJ
          · refine GoW.on (fun t k => XS.icmpYes Y151.here hx rfl (pc0 := 324) (pc' := 370) rfl (hb hby at_324) rfl (feq hc324_163).2 (by decide) (by decide) k) ?_
            show GoW p.tables e below s _ _ _ _ _ (T151.setTop (mkF m 370 #[.val (.int p1), .val (.int p2), .val (.int p3), .val (.int p4), .val (.int bT), .val (.int bC), .val (.int (Int32.ofNat lT)), .val (.int (Int32.ofNat lC)), .val (.int nT), .val (.int nC), .val (.int (Int32.ofNat lR)), .val (.int cp), .val (.int r11), .val (.int r13), .val (.int r15), .val (.int r17), .val (.int r19), .val (.int r21), .val (.int (Int32.ofNat lC)), .val (.int r17), .val (.int r19), .val (.int r21), .val (.ref xs140), .val (.ref xs145), .val (.ref xs151), .val (.int (own_b ((([r11, r13, r15] : List Int32).take lT) = ([69, 68] : List Int32)))), .unset] []))
            refine GoW.on (fun t k => XS.iconst Y151.here hx rfl (hb hby at_370) k) ?_
            show GoW p.tables e below s _ _ _ _ _ (T151.setTop (mkF m 371 #[.val (.int p1), .val (.int p2), .val (.int p3), .val (.int p4), .val (.int bT), .val (.int bC), .val (.int (Int32.ofNat lT)), .val (.int (Int32.ofNat lC)), .val (.int nT), .val (.int nC), .val (.int (Int32.ofNat lR)), .val (.int cp), .val (.int r11), .val (.int r13), .val (.int r15), .val (.int r17), .val (.int r19), .val (.int r21), .val (.int (Int32.ofNat lC)), .val (.int r17), .val (.int r19), .val (.int r21), .val (.ref xs140), .val (.ref xs145), .val (.ref xs151), .val (.int (own_b ((([r11, r13, r15] : List Int32).take lT) = ([69, 68] : List Int32)))), .unset] [(.int (0 : Int32))]))
            have eJ : own_b ((([r17, r19, r21] : List Int32).take lC) = (([r17, r19, r21] : List Int32).take lC)) = 0 := own_bf (fun q => hc324_163 ((own_tke hlC hlC).mp q).1)
            rw [eJ] at kJ
            exact kJ
        refine J162 ?_
        show GoW p.tables e below s _ _ _ _ _ (T151.setTop (mkF m 371 #[.val (.int p1), .val (.int p2), .val (.int p3), .val (.int p4), .val (.int bT), .val (.int bC), .val (.int (Int32.ofNat lT)), .val (.int (Int32.ofNat lC)), .val (.int nT), .val (.int nC), .val (.int (Int32.ofNat lR)), .val (.int cp), .val (.int r11), .val (.int r13), .val (.int r15), .val (.int r17), .val (.int r19), .val (.int r21), .val (.int (Int32.ofNat lC)), .val (.int r17), .val (.int r19), .val (.int r21), .val (.ref xs140), .val (.ref xs145), .val (.ref xs151), .val (.int (own_b ((([r11, r13, r15] : List Int32).take lT) = ([69, 68] : List Int32)))), .unset] [(.int (own_b ((([r17, r19, r21] : List Int32).take lC) = (([r17, r19, r21] : List Int32).take lC))))]))
        refine GoW.on (fun t k => XS.istore Y151.here hx rfl (hb hby at_371) rfl (l' := #[.val (.int p1), .val (.int p2), .val (.int p3), .val (.int p4), .val (.int bT), .val (.int bC), .val (.int (Int32.ofNat lT)), .val (.int (Int32.ofNat lC)), .val (.int nT), .val (.int nC), .val (.int (Int32.ofNat lR)), .val (.int cp), .val (.int r11), .val (.int r13), .val (.int r15), .val (.int r17), .val (.int r19), .val (.int r21), .val (.int (Int32.ofNat lC)), .val (.int r17), .val (.int r19), .val (.int r21), .val (.ref xs140), .val (.ref xs145), .val (.ref xs151), .val (.int (own_b ((([r11, r13, r15] : List Int32).take lT) = ([69, 68] : List Int32)))), .val (.int (own_b ((([r17, r19, r21] : List Int32).take lC) = (([r17, r19, r21] : List Int32).take lC))))]) rfl (XS.aload Y151.here hx rfl (hb hby at_373) rfl rfl (XS.aload Y151.here hx rfl (hb hby at_375) rfl rfl (XS.aload Y151.here hx rfl (hb hby at_377) rfl rfl k)))) ?_
        show GoW p.tables e below s _ _ _ _ _ (T151.setTop (mkF m 379 #[.val (.int p1), .val (.int p2), .val (.int p3), .val (.int p4), .val (.int bT), .val (.int bC), .val (.int (Int32.ofNat lT)), .val (.int (Int32.ofNat lC)), .val (.int nT), .val (.int nC), .val (.int (Int32.ofNat lR)), .val (.int cp), .val (.int r11), .val (.int r13), .val (.int r15), .val (.int r17), .val (.int r19), .val (.int r21), .val (.int (Int32.ofNat lC)), .val (.int r17), .val (.int r19), .val (.int r21), .val (.ref xs140), .val (.ref xs145), .val (.ref xs151), .val (.int (own_b ((([r11, r13, r15] : List Int32).take lT) = ([69, 68] : List Int32)))), .val (.int (own_b ((([r17, r19, r21] : List Int32).take lC) = (([r17, r19, r21] : List Int32).take lC))))] [(.ref xs151), (.ref xs145), (.ref xs140)]))
        obtain ⟨_, _, ⟨T178, L178, k178, n178⟩, -, X178, Sn178, Gr178, ⟨Lc178, hQ178, l178, y178, z178, C178⟩, st178⟩ := callSS Y151 hx (y := (⟨"com/example/rhythmwire/rhythmwire/idc/CommonSegments", "isReport", "(Ljava/lang/String;Ljava/lang/String;Ljava/lang/String;)Z"⟩ : MethodName)) hown151 (mvT hZ151 (hw _ (List.mem_of_getElem? (i := 29) rfl))) (mvT hZ151 (hw _ (List.mem_of_getElem? (i := 30) rfl))) (mvT hZ151 (hw _ (List.mem_of_getElem? (i := 31) rfl))) (mvT hZ151 (hw _ (List.mem_of_getElem? (i := 32) rfl))) (by decide) (backOfSH (W := 0) (rm6rr l Z a0 hw [] xs140 xs145 xs151 G1 (([r11, r13, r15] : List Int32).take lT) (([r17, r19, r21] : List Int32).take lC) (([r17, r19, r21] : List Int32).take lC) T151.heap n0 Zp156 Old0_153 O2 P5 P140_154 P145_155 P151_0) hZ151 (hw _ (List.mem_of_getElem? (i := 32) rfl)) (hw _ (List.mem_of_getElem? (i := 31) rfl)) (by decide) (by decide) hEL Ch152.1) (g := (mkF m 379 #[.val (.int p1), .val (.int p2), .val (.int p3), .val (.int p4), .val (.int bT), .val (.int bC), .val (.int (Int32.ofNat lT)), .val (.int (Int32.ofNat lC)), .val (.int nT), .val (.int nC), .val (.int (Int32.ofNat lR)), .val (.int cp), .val (.int r11), .val (.int r13), .val (.int r15), .val (.int r17), .val (.int r19), .val (.int r21), .val (.int (Int32.ofNat lC)), .val (.int r17), .val (.int r19), .val (.int r21), .val (.ref xs140), .val (.ref xs145), .val (.ref xs151), .val (.int (own_b ((([r11, r13, r15] : List Int32).take lT) = ([69, 68] : List Int32)))), .val (.int (own_b ((([r17, r19, r21] : List Int32).take lC) = (([r17, r19, r21] : List Int32).take lC))))] [(.ref xs151), (.ref xs145), (.ref xs140)])) rfl (by rw [hml]; rfl) (argsL := [(.ref xs140), (.ref xs145), (.ref xs151)]) (rest := []) (lenOf pd__40_Ljava_47_lang_47_String_59_Ljava_47_lang_47_String_59_Ljava_47_lang_47_String_59__41_Z rfl) rfl (by show 2 * 0 + _ ≤ _; exact Nat.le_of_eq rfl) (hb hby at_379) (fun _ _ => ⟨rfl, rfl, (by decide : (((((((((0 + 0) + 0) + 0) + 0) + 0) + 0) + 6) + 6) + 6) + 2 ≤ _), (by decide : (((((((((0 + 0) + 0) + 0) + 0) + 0) + 0) + 12) + 12) + 12) + 12 ≤ _)⟩)
        dsimp only [Pt.U, Pt.locs, Pt.cells, Pt.slots] at X178 l178 y178 z178 st178 hQ178 Sn178 Gr178 C178
        rw [l178, y178, z178] at X178
        obtain ⟨Y178, hS178, hZ178, hown178⟩ := rebS hS151 (Nat.le_refl _) X178 Sn178 Gr178 hZ151 hown151
        obtain ⟨rfl, Nq178, Kq178⟩ := hQ178
        have Ch179 := Ch152.trans C178
        have Old0_180 := Old0_153.keep Kq178 all0
        have P140_181 := P140_154.keep0 Kq178
        have P145_182 := P145_155.keep0 Kq178
        have P151_183 := P151_0.keep0 Kq178
        have Zp184 := Nat.le_trans Zp156 Kq178.1
        have Np185 := Fr.app Np157 Nq178
        refine GoW.via st178 ?_
        show GoW p.tables e below s _ _ _ _ _ (T178.setTop (mkF m 382 #[.val (.int p1), .val (.int p2), .val (.int p3), .val (.int p4), .val (.int bT), .val (.int bC), .val (.int (Int32.ofNat lT)), .val (.int (Int32.ofNat lC)), .val (.int nT), .val (.int nC), .val (.int (Int32.ofNat lR)), .val (.int cp), .val (.int r11), .val (.int r13), .val (.int r15), .val (.int r17), .val (.int r19), .val (.int r21), .val (.int (Int32.ofNat lC)), .val (.int r17), .val (.int r19), .val (.int r21), .val (.ref xs140), .val (.ref xs145), .val (.ref xs151), .val (.int (own_b ((([r11, r13, r15] : List Int32).take lT) = ([69, 68] : List Int32)))), .val (.int (own_b ((([r17, r19, r21] : List Int32).take lC) = (([r17, r19, r21] : List Int32).take lC))))] [(.int (own_b (([69, 68] : List Int32) = (([r11, r13, r15] : List Int32).take lT) ∧ (([r17, r19, r21] : List Int32).take lC) = (([r17, r19, r21] : List Int32).take lC))))]))
        refine GoW.on (fun t k => XS.iload Y178.here hx rfl (hb hby at_382) rfl k) ?_
        show GoW p.tables e below s _ _ _ _ _ (T178.setTop (mkF m 384 #[.val (.int p1), .val (.int p2), .val (.int p3), .val (.int p4), .val (.int bT), .val (.int bC), .val (.int (Int32.ofNat lT)), .val (.int (Int32.ofNat lC)), .val (.int nT), .val (.int nC), .val (.int (Int32.ofNat lR)), .val (.int cp), .val (.int r11), .val (.int r13), .val (.int r15), .val (.int r17), .val (.int r19), .val (.int r21), .val (.int (Int32.ofNat lC)), .val (.int r17), .val (.int r19), .val (.int r21), .val (.ref xs140), .val (.ref xs145), .val (.ref xs151), .val (.int (own_b ((([r11, r13, r15] : List Int32).take lT) = ([69, 68] : List Int32)))), .val (.int (own_b ((([r17, r19, r21] : List Int32).take lC) = (([r17, r19, r21] : List Int32).take lC))))] [(.int (own_b ((([r11, r13, r15] : List Int32).take lT) = ([69, 68] : List Int32)))), (.int (own_b (([69, 68] : List Int32) = (([r11, r13, r15] : List Int32).take lT) ∧ (([r17, r19, r21] : List Int32).take lC) = (([r17, r19, r21] : List Int32).take lC))))]))
        by_cases hc384_186 : (own_b ((([r11, r13, r15] : List Int32).take lT) = ([69, 68] : List Int32))) = (0 : Int32)
        · refine GoW.on (fun t k => XS.ifYes Y178.here hx rfl (pc0 := 384) (pc' := 396) rfl (hb hby at_384) rfl ((if0 _ _).trans (teq hc384_186).1) (by decide) (by decide) k) ?_
          show GoW p.tables e below s _ _ _ _ _ (T178.setTop (mkF m 396 #[.val (.int p1), .val (.int p2), .val (.int p3), .val (.int p4), .val (.int bT), .val (.int bC), .val (.int (Int32.ofNat lT)), .val (.int (Int32.ofNat lC)), .val (.int nT), .val (.int nC), .val (.int (Int32.ofNat lR)), .val (.int cp), .val (.int r11), .val (.int r13), .val (.int r15), .val (.int r17), .val (.int r19), .val (.int r21), .val (.int (Int32.ofNat lC)), .val (.int r17), .val (.int r19), .val (.int r21), .val (.ref xs140), .val (.ref xs145), .val (.ref xs151), .val (.int (own_b ((([r11, r13, r15] : List Int32).take lT) = ([69, 68] : List Int32)))), .val (.int (own_b ((([r17, r19, r21] : List Int32).take lC) = (([r17, r19, r21] : List Int32).take lC))))] [(.int (own_b (([69, 68] : List Int32) = (([r11, r13, r15] : List Int32).take lT) ∧ (([r17, r19, r21] : List Int32).take lC) = (([r17, r19, r21] : List Int32).take lC))))]))
          refine GoW.on (fun t k => XS.iconst Y178.here hx rfl (hb hby at_396) k) ?_
          show GoW p.tables e below s _ _ _ _ _ (T178.setTop (mkF m 397 #[.val (.int p1), .val (.int p2), .val (.int p3), .val (.int p4), .val (.int bT), .val (.int bC), .val (.int (Int32.ofNat lT)), .val (.int (Int32.ofNat lC)), .val (.int nT), .val (.int nC), .val (.int (Int32.ofNat lR)), .val (.int cp), .val (.int r11), .val (.int r13), .val (.int r15), .val (.int r17), .val (.int r19), .val (.int r21), .val (.int (Int32.ofNat lC)), .val (.int r17), .val (.int r19), .val (.int r21), .val (.ref xs140), .val (.ref xs145), .val (.ref xs151), .val (.int (own_b ((([r11, r13, r15] : List Int32).take lT) = ([69, 68] : List Int32)))), .val (.int (own_b ((([r17, r19, r21] : List Int32).take lC) = (([r17, r19, r21] : List Int32).take lC))))] [(.int (0 : Int32)), (.int (own_b (([69, 68] : List Int32) = (([r11, r13, r15] : List Int32).take lT) ∧ (([r17, r19, r21] : List Int32).take lC) = (([r17, r19, r21] : List Int32).take lC))))]))
          refine GoW.on (fun t k => XS.icmpNo Y178.here hx rfl (hb hby at_397) rfl (teq (own_bf fun q => own_b0 hc384_186 q.1.symm)).2 k) ?_
          show GoW p.tables e below s _ _ _ _ _ (T178.setTop (mkF m 400 #[.val (.int p1), .val (.int p2), .val (.int p3), .val (.int p4), .val (.int bT), .val (.int bC), .val (.int (Int32.ofNat lT)), .val (.int (Int32.ofNat lC)), .val (.int nT), .val (.int nC), .val (.int (Int32.ofNat lR)), .val (.int cp), .val (.int r11), .val (.int r13), .val (.int r15), .val (.int r17), .val (.int r19), .val (.int r21), .val (.int (Int32.ofNat lC)), .val (.int r17), .val (.int r19), .val (.int r21), .val (.ref xs140), .val (.ref xs145), .val (.ref xs151), .val (.int (own_b ((([r11, r13, r15] : List Int32).take lT) = ([69, 68] : List Int32)))), .val (.int (own_b ((([r17, r19, r21] : List Int32).take lC) = (([r17, r19, r21] : List Int32).take lC))))] []))
          refine GoW.on (fun t k => XS.iconst Y178.here hx rfl (hb hby at_400) (XS.goto Y178.here hx rfl (pc0 := 401) (pc' := 405) rfl (hb hby at_401) (by decide) (by decide) k)) ?_
          show GoW p.tables e below s _ _ _ _ _ (T178.setTop (mkF m 405 #[.val (.int p1), .val (.int p2), .val (.int p3), .val (.int p4), .val (.int bT), .val (.int bC), .val (.int (Int32.ofNat lT)), .val (.int (Int32.ofNat lC)), .val (.int nT), .val (.int nC), .val (.int (Int32.ofNat lR)), .val (.int cp), .val (.int r11), .val (.int r13), .val (.int r15), .val (.int r17), .val (.int r19), .val (.int r21), .val (.int (Int32.ofNat lC)), .val (.int r17), .val (.int r19), .val (.int r21), .val (.ref xs140), .val (.ref xs145), .val (.ref xs151), .val (.int (own_b ((([r11, r13, r15] : List Int32).take lT) = ([69, 68] : List Int32)))), .val (.int (own_b ((([r17, r19, r21] : List Int32).take lC) = (([r17, r19, r21] : List Int32).take lC))))] [(.int (1 : Int32))]))
          refine GoW.retN Y178 hx hlk hZ178 hS178 (Nat.le_refl _) hEL Ch179 (t := .boolean) Bd.returns (by simp) (hb hby at_405) (by decide) (by decide) rfl ?_
          exact ⟨rfl, Np185⟩
        · refine GoW.on (fun t k => XS.ifNo Y178.here hx rfl (hb hby at_384) rfl ((if0 _ _).trans (feq hc384_186).1) k) ?_
          show GoW p.tables e below s _ _ _ _ _ (T178.setTop (mkF m 387 #[.val (.int p1), .val (.int p2), .val (.int p3), .val (.int p4), .val (.int bT), .val (.int bC), .val (.int (Int32.ofNat lT)), .val (.int (Int32.ofNat lC)), .val (.int nT), .val (.int nC), .val (.int (Int32.ofNat lR)), .val (.int cp), .val (.int r11), .val (.int r13), .val (.int r15), .val (.int r17), .val (.int r19), .val (.int r21), .val (.int (Int32.ofNat lC)), .val (.int r17), .val (.int r19), .val (.int r21), .val (.ref xs140), .val (.ref xs145), .val (.ref xs151), .val (.int (own_b ((([r11, r13, r15] : List Int32).take lT) = ([69, 68] : List Int32)))), .val (.int (own_b ((([r17, r19, r21] : List Int32).take lC) = (([r17, r19, r21] : List Int32).take lC))))] [(.int (own_b (([69, 68] : List Int32) = (([r11, r13, r15] : List Int32).take lT) ∧ (([r17, r19, r21] : List Int32).take lC) = (([r17, r19, r21] : List Int32).take lC))))]))
          refine GoW.on (fun t k => XS.iload Y178.here hx rfl (hb hby at_387) rfl k) ?_
          show GoW p.tables e below s _ _ _ _ _ (T178.setTop (mkF m 389 #[.val (.int p1), .val (.int p2), .val (.int p3), .val (.int p4), .val (.int bT), .val (.int bC), .val (.int (Int32.ofNat lT)), .val (.int (Int32.ofNat lC)), .val (.int nT), .val (.int nC), .val (.int (Int32.ofNat lR)), .val (.int cp), .val (.int r11), .val (.int r13), .val (.int r15), .val (.int r17), .val (.int r19), .val (.int r21), .val (.int (Int32.ofNat lC)), .val (.int r17), .val (.int r19), .val (.int r21), .val (.ref xs140), .val (.ref xs145), .val (.ref xs151), .val (.int (own_b ((([r11, r13, r15] : List Int32).take lT) = ([69, 68] : List Int32)))), .val (.int (own_b ((([r17, r19, r21] : List Int32).take lC) = (([r17, r19, r21] : List Int32).take lC))))] [(.int (own_b ((([r17, r19, r21] : List Int32).take lC) = (([r17, r19, r21] : List Int32).take lC)))), (.int (own_b (([69, 68] : List Int32) = (([r11, r13, r15] : List Int32).take lT) ∧ (([r17, r19, r21] : List Int32).take lC) = (([r17, r19, r21] : List Int32).take lC))))]))
          by_cases hc389_187 : (own_b ((([r17, r19, r21] : List Int32).take lC) = (([r17, r19, r21] : List Int32).take lC))) = (0 : Int32)
          · refine GoW.on (fun t k => XS.ifYes Y178.here hx rfl (pc0 := 389) (pc' := 396) rfl (hb hby at_389) rfl ((if0 _ _).trans (teq hc389_187).1) (by decide) (by decide) k) ?_
            show GoW p.tables e below s _ _ _ _ _ (T178.setTop (mkF m 396 #[.val (.int p1), .val (.int p2), .val (.int p3), .val (.int p4), .val (.int bT), .val (.int bC), .val (.int (Int32.ofNat lT)), .val (.int (Int32.ofNat lC)), .val (.int nT), .val (.int nC), .val (.int (Int32.ofNat lR)), .val (.int cp), .val (.int r11), .val (.int r13), .val (.int r15), .val (.int r17), .val (.int r19), .val (.int r21), .val (.int (Int32.ofNat lC)), .val (.int r17), .val (.int r19), .val (.int r21), .val (.ref xs140), .val (.ref xs145), .val (.ref xs151), .val (.int (own_b ((([r11, r13, r15] : List Int32).take lT) = ([69, 68] : List Int32)))), .val (.int (own_b ((([r17, r19, r21] : List Int32).take lC) = (([r17, r19, r21] : List Int32).take lC))))] [(.int (own_b (([69, 68] : List Int32) = (([r11, r13, r15] : List Int32).take lT) ∧ (([r17, r19, r21] : List Int32).take lC) = (([r17, r19, r21] : List Int32).take lC))))]))
            refine GoW.on (fun t k => XS.iconst Y178.here hx rfl (hb hby at_396) k) ?_
            show GoW p.tables e below s _ _ _ _ _ (T178.setTop (mkF m 397 #[.val (.int p1), .val (.int p2), .val (.int p3), .val (.int p4), .val (.int bT), .val (.int bC), .val (.int (Int32.ofNat lT)), .val (.int (Int32.ofNat lC)), .val (.int nT), .val (.int nC), .val (.int (Int32.ofNat lR)), .val (.int cp), .val (.int r11), .val (.int r13), .val (.int r15), .val (.int r17), .val (.int r19), .val (.int r21), .val (.int (Int32.ofNat lC)), .val (.int r17), .val (.int r19), .val (.int r21), .val (.ref xs140), .val (.ref xs145), .val (.ref xs151), .val (.int (own_b ((([r11, r13, r15] : List Int32).take lT) = ([69, 68] : List Int32)))), .val (.int (own_b ((([r17, r19, r21] : List Int32).take lC) = (([r17, r19, r21] : List Int32).take lC))))] [(.int (0 : Int32)), (.int (own_b (([69, 68] : List Int32) = (([r11, r13, r15] : List Int32).take lT) ∧ (([r17, r19, r21] : List Int32).take lC) = (([r17, r19, r21] : List Int32).take lC))))]))
            refine GoW.on (fun t k => XS.icmpNo Y178.here hx rfl (hb hby at_397) rfl (teq (own_bf fun q => own_b0 hc389_187 q.2.symm)).2 k) ?_
            show GoW p.tables e below s _ _ _ _ _ (T178.setTop (mkF m 400 #[.val (.int p1), .val (.int p2), .val (.int p3), .val (.int p4), .val (.int bT), .val (.int bC), .val (.int (Int32.ofNat lT)), .val (.int (Int32.ofNat lC)), .val (.int nT), .val (.int nC), .val (.int (Int32.ofNat lR)), .val (.int cp), .val (.int r11), .val (.int r13), .val (.int r15), .val (.int r17), .val (.int r19), .val (.int r21), .val (.int (Int32.ofNat lC)), .val (.int r17), .val (.int r19), .val (.int r21), .val (.ref xs140), .val (.ref xs145), .val (.ref xs151), .val (.int (own_b ((([r11, r13, r15] : List Int32).take lT) = ([69, 68] : List Int32)))), .val (.int (own_b ((([r17, r19, r21] : List Int32).take lC) = (([r17, r19, r21] : List Int32).take lC))))] []))
            refine GoW.on (fun t k => XS.iconst Y178.here hx rfl (hb hby at_400) (XS.goto Y178.here hx rfl (pc0 := 401) (pc' := 405) rfl (hb hby at_401) (by decide) (by decide) k)) ?_
            show GoW p.tables e below s _ _ _ _ _ (T178.setTop (mkF m 405 #[.val (.int p1), .val (.int p2), .val (.int p3), .val (.int p4), .val (.int bT), .val (.int bC), .val (.int (Int32.ofNat lT)), .val (.int (Int32.ofNat lC)), .val (.int nT), .val (.int nC), .val (.int (Int32.ofNat lR)), .val (.int cp), .val (.int r11), .val (.int r13), .val (.int r15), .val (.int r17), .val (.int r19), .val (.int r21), .val (.int (Int32.ofNat lC)), .val (.int r17), .val (.int r19), .val (.int r21), .val (.ref xs140), .val (.ref xs145), .val (.ref xs151), .val (.int (own_b ((([r11, r13, r15] : List Int32).take lT) = ([69, 68] : List Int32)))), .val (.int (own_b ((([r17, r19, r21] : List Int32).take lC) = (([r17, r19, r21] : List Int32).take lC))))] [(.int (1 : Int32))]))
            refine GoW.retN Y178 hx hlk hZ178 hS178 (Nat.le_refl _) hEL Ch179 (t := .boolean) Bd.returns (by simp) (hb hby at_405) (by decide) (by decide) rfl ?_
            exact ⟨rfl, Np185⟩
          · refine GoW.on (fun t k => XS.ifNo Y178.here hx rfl (hb hby at_389) rfl ((if0 _ _).trans (feq hc389_187).1) k) ?_
            show GoW p.tables e below s _ _ _ _ _ (T178.setTop (mkF m 392 #[.val (.int p1), .val (.int p2), .val (.int p3), .val (.int p4), .val (.int bT), .val (.int bC), .val (.int (Int32.ofNat lT)), .val (.int (Int32.ofNat lC)), .val (.int nT), .val (.int nC), .val (.int (Int32.ofNat lR)), .val (.int cp), .val (.int r11), .val (.int r13), .val (.int r15), .val (.int r17), .val (.int r19), .val (.int r21), .val (.int (Int32.ofNat lC)), .val (.int r17), .val (.int r19), .val (.int r21), .val (.ref xs140), .val (.ref xs145), .val (.ref xs151), .val (.int (own_b ((([r11, r13, r15] : List Int32).take lT) = ([69, 68] : List Int32)))), .val (.int (own_b ((([r17, r19, r21] : List Int32).take lC) = (([r17, r19, r21] : List Int32).take lC))))] [(.int (own_b (([69, 68] : List Int32) = (([r11, r13, r15] : List Int32).take lT) ∧ (([r17, r19, r21] : List Int32).take lC) = (([r17, r19, r21] : List Int32).take lC))))]))
            refine GoW.on (fun t k => XS.iconst Y178.here hx rfl (hb hby at_392) (XS.goto Y178.here hx rfl (pc0 := 393) (pc' := 397) rfl (hb hby at_393) (by decide) (by decide) k)) ?_
            show GoW p.tables e below s _ _ _ _ _ (T178.setTop (mkF m 397 #[.val (.int p1), .val (.int p2), .val (.int p3), .val (.int p4), .val (.int bT), .val (.int bC), .val (.int (Int32.ofNat lT)), .val (.int (Int32.ofNat lC)), .val (.int nT), .val (.int nC), .val (.int (Int32.ofNat lR)), .val (.int cp), .val (.int r11), .val (.int r13), .val (.int r15), .val (.int r17), .val (.int r19), .val (.int r21), .val (.int (Int32.ofNat lC)), .val (.int r17), .val (.int r19), .val (.int r21), .val (.ref xs140), .val (.ref xs145), .val (.ref xs151), .val (.int (own_b ((([r11, r13, r15] : List Int32).take lT) = ([69, 68] : List Int32)))), .val (.int (own_b ((([r17, r19, r21] : List Int32).take lC) = (([r17, r19, r21] : List Int32).take lC))))] [(.int (1 : Int32)), (.int (own_b (([69, 68] : List Int32) = (([r11, r13, r15] : List Int32).take lT) ∧ (([r17, r19, r21] : List Int32).take lC) = (([r17, r19, r21] : List Int32).take lC))))]))
            refine GoW.on (fun t k => XS.icmpNo Y178.here hx rfl (hb hby at_397) rfl (teq (own_bt ⟨(own_b1 hc384_186).symm, (own_b1 hc389_187).symm⟩)).2 k) ?_
            show GoW p.tables e below s _ _ _ _ _ (T178.setTop (mkF m 400 #[.val (.int p1), .val (.int p2), .val (.int p3), .val (.int p4), .val (.int bT), .val (.int bC), .val (.int (Int32.ofNat lT)), .val (.int (Int32.ofNat lC)), .val (.int nT), .val (.int nC), .val (.int (Int32.ofNat lR)), .val (.int cp), .val (.int r11), .val (.int r13), .val (.int r15), .val (.int r17), .val (.int r19), .val (.int r21), .val (.int (Int32.ofNat lC)), .val (.int r17), .val (.int r19), .val (.int r21), .val (.ref xs140), .val (.ref xs145), .val (.ref xs151), .val (.int (own_b ((([r11, r13, r15] : List Int32).take lT) = ([69, 68] : List Int32)))), .val (.int (own_b ((([r17, r19, r21] : List Int32).take lC) = (([r17, r19, r21] : List Int32).take lC))))] []))
            refine GoW.on (fun t k => XS.iconst Y178.here hx rfl (hb hby at_400) (XS.goto Y178.here hx rfl (pc0 := 401) (pc' := 405) rfl (hb hby at_401) (by decide) (by decide) k)) ?_
            show GoW p.tables e below s _ _ _ _ _ (T178.setTop (mkF m 405 #[.val (.int p1), .val (.int p2), .val (.int p3), .val (.int p4), .val (.int bT), .val (.int bC), .val (.int (Int32.ofNat lT)), .val (.int (Int32.ofNat lC)), .val (.int nT), .val (.int nC), .val (.int (Int32.ofNat lR)), .val (.int cp), .val (.int r11), .val (.int r13), .val (.int r15), .val (.int r17), .val (.int r19), .val (.int r21), .val (.int (Int32.ofNat lC)), .val (.int r17), .val (.int r19), .val (.int r21), .val (.ref xs140), .val (.ref xs145), .val (.ref xs151), .val (.int (own_b ((([r11, r13, r15] : List Int32).take lT) = ([69, 68] : List Int32)))), .val (.int (own_b ((([r17, r19, r21] : List Int32).take lC) = (([r17, r19, r21] : List Int32).take lC))))] [(.int (1 : Int32))]))
            refine GoW.retN Y178 hx hlk hZ178 hS178 (Nat.le_refl _) hEL Ch179 (t := .boolean) Bd.returns (by simp) (hb hby at_405) (by decide) (by decide) rfl ?_
            exact ⟨rfl, Np185⟩
      · refine GoW.on (fun t k => XS.ifNo Y140.here hx rfl (hb hby at_250) rfl ((if0 _ _).trans (feq hnC).1) k) ?_
        show GoW p.tables e below s _ _ _ _ _ (T140.setTop (mkF m 253 #[.val (.int p1), .val (.int p2), .val (.int p3), .val (.int p4), .val (.int bT), .val (.int bC), .val (.int (Int32.ofNat lT)), .val (.int (Int32.ofNat lC)), .val (.int nT), .val (.int nC), .val (.int (Int32.ofNat lR)), .val (.int cp), .val (.int r11), .val (.int r13), .val (.int r15), .val (.int r17), .val (.int r19), .val (.int r21), .val (.int (Int32.ofNat lC)), .val (.int r17), .val (.int r19), .val (.int r21), .val (.ref xs140), .unset, .unset, .unset, .unset] []))
        refine GoW.on (fun t k => XS.aconstNull Y140.here hx rfl (hb hby at_253) (XS.goto Y140.here hx rfl (pc0 := 254) (pc' := 268) rfl (hb hby at_254) (by decide) (by decide) (XS.astore Y140.here hx rfl (hb hby at_268) rfl rfl (l' := #[.val (.int p1), .val (.int p2), .val (.int p3), .val (.int p4), .val (.int bT), .val (.int bC), .val (.int (Int32.ofNat lT)), .val (.int (Int32.ofNat lC)), .val (.int nT), .val (.int nC), .val (.int (Int32.ofNat lR)), .val (.int cp), .val (.int r11), .val (.int r13), .val (.int r15), .val (.int r17), .val (.int r19), .val (.int r21), .val (.int (Int32.ofNat lC)), .val (.int r17), .val (.int r19), .val (.int r21), .val (.ref xs140), .val .null, .unset, .unset, .unset]) rfl (XS.iload Y140.here hx rfl (hb hby at_270) rfl (XS.iload Y140.here hx rfl (hb hby at_272) rfl (XS.iload Y140.here hx rfl (hb hby at_274) rfl (XS.iload Y140.here hx rfl (hb hby at_276) rfl k))))))) ?_
        show GoW p.tables e below s _ _ _ _ _ (T140.setTop (mkF m 278 #[.val (.int p1), .val (.int p2), .val (.int p3), .val (.int p4), .val (.int bT), .val (.int bC), .val (.int (Int32.ofNat lT)), .val (.int (Int32.ofNat lC)), .val (.int nT), .val (.int nC), .val (.int (Int32.ofNat lR)), .val (.int cp), .val (.int r11), .val (.int r13), .val (.int r15), .val (.int r17), .val (.int r19), .val (.int r21), .val (.int (Int32.ofNat lC)), .val (.int r17), .val (.int r19), .val (.int r21), .val (.ref xs140), .val .null, .unset, .unset, .unset] [(.int r21), (.int r19), (.int r17), (.int (Int32.ofNat lC))]))
        obtain ⟨_, _, ⟨T188, L188, k188, n188⟩, -, X188, Sn188, Gr188, ⟨Lc188, hQ188, l188, y188, z188, C188⟩, st188⟩ := callSS Y140 hx (y := (⟨"com/example/rhythmwire/rhythmwire/idc/CommonSegmentsIsReportPinLaw", "str", "(ICCC)Ljava/lang/String;"⟩ : MethodName)) hown140 (mvT hZ140 (hw _ (List.mem_of_getElem? (i := 4) rfl))) (mvT hZ140 (hw _ (List.mem_of_getElem? (i := 5) rfl))) (mvT hZ140 (hw _ (List.mem_of_getElem? (i := 2) rfl))) (mvT hZ140 (hw _ (List.mem_of_getElem? (i := 6) rfl))) (by decide) (backOfSH (W := 0) (rm2 l Z a0 hw [] (Int32.ofNat lC) r17 r19 r21 G1 lC T140.heap n0 Zp143 Old0_142 O2 P5 rfl hlC P17_0 P19_0 P21_0) hZ140 (hw _ (List.mem_of_getElem? (i := 6) rfl)) (hw _ (List.mem_of_getElem? (i := 2) rfl)) (by decide) (by decide) hEL Ch141.1) (g := (mkF m 278 #[.val (.int p1), .val (.int p2), .val (.int p3), .val (.int p4), .val (.int bT), .val (.int bC), .val (.int (Int32.ofNat lT)), .val (.int (Int32.ofNat lC)), .val (.int nT), .val (.int nC), .val (.int (Int32.ofNat lR)), .val (.int cp), .val (.int r11), .val (.int r13), .val (.int r15), .val (.int r17), .val (.int r19), .val (.int r21), .val (.int (Int32.ofNat lC)), .val (.int r17), .val (.int r19), .val (.int r21), .val (.ref xs140), .val .null, .unset, .unset, .unset] [(.int r21), (.int r19), (.int r17), (.int (Int32.ofNat lC))])) rfl (by rw [hml]; rfl) (argsL := [(.int (Int32.ofNat lC)), (.int r17), (.int r19), (.int r21)]) (rest := []) (lenOf pd__40_ICCC_41_Ljava_47_lang_47_String_59_ rfl) rfl (by show 2 * 0 + _ ≤ _; exact Nat.le_of_eq rfl) (hb hby at_278) (fun _ _ => ⟨rfl, rfl, (by decide : (((((((0 + 0) + 0) + 0) + 0) + 0) + 0) + 6) + 6 ≤ _), (by decide : (((((((0 + 0) + 0) + 0) + 0) + 0) + 0) + 12) + 12 ≤ _)⟩)
        dsimp only [Pt.U, Pt.locs, Pt.cells, Pt.slots] at X188 l188 y188 z188 st188 hQ188 Sn188 Gr188 C188
        rw [l188, y188, z188] at X188
        obtain ⟨Y188, hS188, hZ188, hown188⟩ := rebS hS140 (Nat.le_refl _) X188 Sn188 Gr188 hZ140 hown140
        obtain ⟨xs188, rfl, Nq188, Kq188, P188_0⟩ := hQ188
        have Ch189 := Ch141.trans C188
        have Old0_190 := Old0_142.keep Kq188 all0
        have P140_191 := P140_0.keep0 Kq188
        have Zp192 := Nat.le_trans Zp143 Kq188.1
        have Np193 := Fr.app Np144 Nq188
        refine GoW.via st188 ?_
        show GoW p.tables e below s _ _ _ _ _ (T188.setTop (mkF m 281 #[.val (.int p1), .val (.int p2), .val (.int p3), .val (.int p4), .val (.int bT), .val (.int bC), .val (.int (Int32.ofNat lT)), .val (.int (Int32.ofNat lC)), .val (.int nT), .val (.int nC), .val (.int (Int32.ofNat lR)), .val (.int cp), .val (.int r11), .val (.int r13), .val (.int r15), .val (.int r17), .val (.int r19), .val (.int r21), .val (.int (Int32.ofNat lC)), .val (.int r17), .val (.int r19), .val (.int r21), .val (.ref xs140), .val .null, .unset, .unset, .unset] [(.ref xs188)]))
        refine GoW.on (fun t k => XS.astore Y188.here hx rfl (hb hby at_281) rfl rfl (l' := #[.val (.int p1), .val (.int p2), .val (.int p3), .val (.int p4), .val (.int bT), .val (.int bC), .val (.int (Int32.ofNat lT)), .val (.int (Int32.ofNat lC)), .val (.int nT), .val (.int nC), .val (.int (Int32.ofNat lR)), .val (.int cp), .val (.int r11), .val (.int r13), .val (.int r15), .val (.int r17), .val (.int r19), .val (.int r21), .val (.int (Int32.ofNat lC)), .val (.int r17), .val (.int r19), .val (.int r21), .val (.ref xs140), .val .null, .val (.ref xs188), .unset, .unset]) rfl (XS.iload Y188.here hx rfl (hb hby at_283) rfl k)) ?_
        show GoW p.tables e below s _ _ _ _ _ (T188.setTop (mkF m 285 #[.val (.int p1), .val (.int p2), .val (.int p3), .val (.int p4), .val (.int bT), .val (.int bC), .val (.int (Int32.ofNat lT)), .val (.int (Int32.ofNat lC)), .val (.int nT), .val (.int nC), .val (.int (Int32.ofNat lR)), .val (.int cp), .val (.int r11), .val (.int r13), .val (.int r15), .val (.int r17), .val (.int r19), .val (.int r21), .val (.int (Int32.ofNat lC)), .val (.int r17), .val (.int r19), .val (.int r21), .val (.ref xs140), .val .null, .val (.ref xs188), .unset, .unset] [(.int nT)]))
        refine GoW.on (fun t k => XS.ifNo Y188.here hx rfl (hb hby at_285) rfl ((if0 _ _).trans (teq hnT).2) k) ?_
        show GoW p.tables e below s _ _ _ _ _ (T188.setTop (mkF m 288 #[.val (.int p1), .val (.int p2), .val (.int p3), .val (.int p4), .val (.int bT), .val (.int bC), .val (.int (Int32.ofNat lT)), .val (.int (Int32.ofNat lC)), .val (.int nT), .val (.int nC), .val (.int (Int32.ofNat lR)), .val (.int cp), .val (.int r11), .val (.int r13), .val (.int r15), .val (.int r17), .val (.int r19), .val (.int r21), .val (.int (Int32.ofNat lC)), .val (.int r17), .val (.int r19), .val (.int r21), .val (.ref xs140), .val .null, .val (.ref xs188), .unset, .unset] []))
        refine GoW.on (fun t k => XS.iload Y188.here hx rfl (hb hby at_288) rfl (XS.iconst Y188.here hx rfl (hb hby at_290) k)) ?_
        show GoW p.tables e below s _ _ _ _ _ (T188.setTop (mkF m 291 #[.val (.int p1), .val (.int p2), .val (.int p3), .val (.int p4), .val (.int bT), .val (.int bC), .val (.int (Int32.ofNat lT)), .val (.int (Int32.ofNat lC)), .val (.int nT), .val (.int nC), .val (.int (Int32.ofNat lR)), .val (.int cp), .val (.int r11), .val (.int r13), .val (.int r15), .val (.int r17), .val (.int r19), .val (.int r21), .val (.int (Int32.ofNat lC)), .val (.int r17), .val (.int r19), .val (.int r21), .val (.ref xs140), .val .null, .val (.ref xs188), .unset, .unset] [(.int (2 : Int32)), (.int (Int32.ofNat lT))]))
        have J194 : GoW p.tables e below s (Q0 Z p1 p2 p3 p4 G1 h0 n0) Z own_EL room_1.cells room_1.slots (T188.setTop (mkF m 313 #[.val (.int p1), .val (.int p2), .val (.int p3), .val (.int p4), .val (.int bT), .val (.int bC), .val (.int (Int32.ofNat lT)), .val (.int (Int32.ofNat lC)), .val (.int nT), .val (.int nC), .val (.int (Int32.ofNat lR)), .val (.int cp), .val (.int r11), .val (.int r13), .val (.int r15), .val (.int r17), .val (.int r19), .val (.int r21), .val (.int (Int32.ofNat lC)), .val (.int r17), .val (.int r19), .val (.int r21), .val (.ref xs140), .val .null, .val (.ref xs188), .unset, .unset] [(.int (own_b ((([r11, r13, r15] : List Int32).take lT) = ([69, 68] : List Int32))))])) → GoW p.tables e below s (Q0 Z p1 p2 p3 p4 G1 h0 n0) Z own_EL room_1.cells room_1.slots (T188.setTop (mkF m 291 #[.val (.int p1), .val (.int p2), .val (.int p3), .val (.int p4), .val (.int bT), .val (.int bC), .val (.int (Int32.ofNat lT)), .val (.int (Int32.ofNat lC)), .val (.int nT), .val (.int nC), .val (.int (Int32.ofNat lR)), .val (.int cp), .val (.int r11), .val (.int r13), .val (.int r15), .val (.int r17), .val (.int r19), .val (.int r21), .val (.int (Int32.ofNat lC)), .val (.int r17), .val (.int r19), .val (.int r21), .val (.ref xs140), .val .null, .val (.ref xs188), .unset, .unset] [(.int (2 : Int32)), (.int (Int32.ofNat lT))])) := by
          intro kJ
          by_cases hc291_195 : (Int32.ofNat lT) = (2 : Int32)
          · refine GoW.on (fun t k => XS.icmpNo Y188.here hx rfl (hb hby at_291) rfl (teq hc291_195).2 k) ?_
            show GoW p.tables e below s _ _ _ _ _ (T188.setTop (mkF m 294 #[.val (.int p1), .val (.int p2), .val (.int p3), .val (.int p4), .val (.int bT), .val (.int bC), .val (.int (Int32.ofNat lT)), .val (.int (Int32.ofNat lC)), .val (.int nT), .val (.int nC), .val (.int (Int32.ofNat lR)), .val (.int cp), .val (.int r11), .val (.int r13), .val (.int r15), .val (.int r17), .val (.int r19), .val (.int r21), .val (.int (Int32.ofNat lC)), .val (.int r17), .val (.int r19), .val (.int r21), .val (.ref xs140), .val .null, .val (.ref xs188), .unset, .unset] []))
            refine GoW.on (fun t k => XS.iload Y188.here hx rfl (hb hby at_294) rfl (XS.bipush Y188.here hx rfl (hb hby at_296) k)) ?_
            show GoW p.tables e below s _ _ _ _ _ (T188.setTop (mkF m 298 #[.val (.int p1), .val (.int p2), .val (.int p3), .val (.int p4), .val (.int bT), .val (.int bC), .val (.int (Int32.ofNat lT)), .val (.int (Int32.ofNat lC)), .val (.int nT), .val (.int nC), .val (.int (Int32.ofNat lR)), .val (.int cp), .val (.int r11), .val (.int r13), .val (.int r15), .val (.int r17), .val (.int r19), .val (.int r21), .val (.int (Int32.ofNat lC)), .val (.int r17), .val (.int r19), .val (.int r21), .val (.ref xs140), .val .null, .val (.ref xs188), .unset, .unset] [(.int (69 : Int32)), (.int r11)]))
            by_cases hc298_196 : r11 = (69 : Int32)
            · refine GoW.on (fun t k => XS.icmpNo Y188.here hx rfl (hb hby at_298) rfl (teq hc298_196).2 k) ?_
              show GoW p.tables e below s _ _ _ _ _ (T188.setTop (mkF m 301 #[.val (.int p1), .val (.int p2), .val (.int p3), .val (.int p4), .val (.int bT), .val (.int bC), .val (.int (Int32.ofNat lT)), .val (.int (Int32.ofNat lC)), .val (.int nT), .val (.int nC), .val (.int (Int32.ofNat lR)), .val (.int cp), .val (.int r11), .val (.int r13), .val (.int r15), .val (.int r17), .val (.int r19), .val (.int r21), .val (.int (Int32.ofNat lC)), .val (.int r17), .val (.int r19), .val (.int r21), .val (.ref xs140), .val .null, .val (.ref xs188), .unset, .unset] []))
              refine GoW.on (fun t k => XS.iload Y188.here hx rfl (hb hby at_301) rfl (XS.bipush Y188.here hx rfl (hb hby at_303) k)) ?_
              show GoW p.tables e below s _ _ _ _ _ (T188.setTop (mkF m 305 #[.val (.int p1), .val (.int p2), .val (.int p3), .val (.int p4), .val (.int bT), .val (.int bC), .val (.int (Int32.ofNat lT)), .val (.int (Int32.ofNat lC)), .val (.int nT), .val (.int nC), .val (.int (Int32.ofNat lR)), .val (.int cp), .val (.int r11), .val (.int r13), .val (.int r15), .val (.int r17), .val (.int r19), .val (.int r21), .val (.int (Int32.ofNat lC)), .val (.int r17), .val (.int r19), .val (.int r21), .val (.ref xs140), .val .null, .val (.ref xs188), .unset, .unset] [(.int (68 : Int32)), (.int r13)]))
              by_cases hc305_197 : r13 = (68 : Int32)
              · refine GoW.on (fun t k => XS.icmpNo Y188.here hx rfl (hb hby at_305) rfl (teq hc305_197).2 k) ?_
                show GoW p.tables e below s _ _ _ _ _ (T188.setTop (mkF m 308 #[.val (.int p1), .val (.int p2), .val (.int p3), .val (.int p4), .val (.int bT), .val (.int bC), .val (.int (Int32.ofNat lT)), .val (.int (Int32.ofNat lC)), .val (.int nT), .val (.int nC), .val (.int (Int32.ofNat lR)), .val (.int cp), .val (.int r11), .val (.int r13), .val (.int r15), .val (.int r17), .val (.int r19), .val (.int r21), .val (.int (Int32.ofNat lC)), .val (.int r17), .val (.int r19), .val (.int r21), .val (.ref xs140), .val .null, .val (.ref xs188), .unset, .unset] []))
                refine GoW.on (fun t k => XS.iconst Y188.here hx rfl (hb hby at_308) (XS.goto Y188.here hx rfl (pc0 := 309) (pc' := 313) rfl (hb hby at_309) (by decide) (by decide) k)) ?_
                show GoW p.tables e below s _ _ _ _ _ (T188.setTop (mkF m 313 #[.val (.int p1), .val (.int p2), .val (.int p3), .val (.int p4), .val (.int bT), .val (.int bC), .val (.int (Int32.ofNat lT)), .val (.int (Int32.ofNat lC)), .val (.int nT), .val (.int nC), .val (.int (Int32.ofNat lR)), .val (.int cp), .val (.int r11), .val (.int r13), .val (.int r15), .val (.int r17), .val (.int r19), .val (.int r21), .val (.int (Int32.ofNat lC)), .val (.int r17), .val (.int r19), .val (.int r21), .val (.ref xs140), .val .null, .val (.ref xs188), .unset, .unset] [(.int (1 : Int32))]))
                have eJ : own_b ((([r11, r13, r15] : List Int32).take lT) = ([69, 68] : List Int32)) = 1 := own_bt ((own_tk hlT).mpr ⟨(own_num hlT (by decide : 2 ≤ 3)).mp hc291_195, hc298_196, hc305_197⟩)
                rw [eJ] at kJ
                exact kJ
              · refine GoW.on (fun t k => XS.icmpYes Y188.here hx rfl (pc0 := 305) (pc' := 312) rfl (hb hby at_305) rfl (feq hc305_197).2 (by decide) (by decide) k) ?_
                show GoW p.tables e below s _ _ _ _ _ (T188.setTop (mkF m 312 #[.val (.int p1), .val (.int p2), .val (.int p3), .val (.int p4), .val (.int bT), .val (.int bC), .val (.int (Int32.ofNat lT)), .val (.int (Int32.ofNat lC)), .val (.int nT), .val (.int nC), .val (.int (Int32.ofNat lR)), .val (.int cp), .val (.int r11), .val (.int r13), .val (.int r15), .val (.int r17), .val (.int r19), .val (.int r21), .val (.int (Int32.ofNat lC)), .val (.int r17), .val (.int r19), .val (.int r21), .val (.ref xs140), .val .null, .val (.ref xs188), .unset, .unset] []))
                refine GoW.on (fun t k => XS.iconst Y188.here hx rfl (hb hby at_312) k) ?_
                show GoW p.tables e below s _ _ _ _ _ (T188.setTop (mkF m 313 #[.val (.int p1), .val (.int p2), .val (.int p3), .val (.int p4), .val (.int bT), .val (.int bC), .val (.int (Int32.ofNat lT)), .val (.int (Int32.ofNat lC)), .val (.int nT), .val (.int nC), .val (.int (Int32.ofNat lR)), .val (.int cp), .val (.int r11), .val (.int r13), .val (.int r15), .val (.int r17), .val (.int r19), .val (.int r21), .val (.int (Int32.ofNat lC)), .val (.int r17), .val (.int r19), .val (.int r21), .val (.ref xs140), .val .null, .val (.ref xs188), .unset, .unset] [(.int (0 : Int32))]))
                have eJ : own_b ((([r11, r13, r15] : List Int32).take lT) = ([69, 68] : List Int32)) = 0 := own_bf (fun q => hc305_197 ((own_tk hlT).mp q).2.2)
                rw [eJ] at kJ
                exact kJ
            · refine GoW.on (fun t k => XS.icmpYes Y188.here hx rfl (pc0 := 298) (pc' := 312) rfl (hb hby at_298) rfl (feq hc298_196).2 (by decide) (by decide) k) ?_
              show GoW p.tables e below s _ _ _ _ _ (T188.setTop (mkF m 312 #[.val (.int p1), .val (.int p2), .val (.int p3), .val (.int p4), .val (.int bT), .val (.int bC), .val (.int (Int32.ofNat lT)), .val (.int (Int32.ofNat lC)), .val (.int nT), .val (.int nC), .val (.int (Int32.ofNat lR)), .val (.int cp), .val (.int r11), .val (.int r13), .val (.int r15), .val (.int r17), .val (.int r19), .val (.int r21), .val (.int (Int32.ofNat lC)), .val (.int r17), .val (.int r19), .val (.int r21), .val (.ref xs140), .val .null, .val (.ref xs188), .unset, .unset] []))
              refine GoW.on (fun t k => XS.iconst Y188.here hx rfl (hb hby at_312) k) ?_
              show GoW p.tables e below s _ _ _ _ _ (T188.setTop (mkF m 313 #[.val (.int p1), .val (.int p2), .val (.int p3), .val (.int p4), .val (.int bT), .val (.int bC), .val (.int (Int32.ofNat lT)), .val (.int (Int32.ofNat lC)), .val (.int nT), .val (.int nC), .val (.int (Int32.ofNat lR)), .val (.int cp), .val (.int r11), .val (.int r13), .val (.int r15), .val (.int r17), .val (.int r19), .val (.int r21), .val (.int (Int32.ofNat lC)), .val (.int r17), .val (.int r19), .val (.int r21), .val (.ref xs140), .val .null, .val (.ref xs188), .unset, .unset] [(.int (0 : Int32))]))
              have eJ : own_b ((([r11, r13, r15] : List Int32).take lT) = ([69, 68] : List Int32)) = 0 := own_bf (fun q => hc298_196 ((own_tk hlT).mp q).2.1)
              rw [eJ] at kJ
              exact kJ
          · refine GoW.on (fun t k => XS.icmpYes Y188.here hx rfl (pc0 := 291) (pc' := 312) rfl (hb hby at_291) rfl (feq hc291_195).2 (by decide) (by decide) k) ?_
            show GoW p.tables e below s _ _ _ _ _ (T188.setTop (mkF m 312 #[.val (.int p1), .val (.int p2), .val (.int p3), .val (.int p4), .val (.int bT), .val (.int bC), .val (.int (Int32.ofNat lT)), .val (.int (Int32.ofNat lC)), .val (.int nT), .val (.int nC), .val (.int (Int32.ofNat lR)), .val (.int cp), .val (.int r11), .val (.int r13), .val (.int r15), .val (.int r17), .val (.int r19), .val (.int r21), .val (.int (Int32.ofNat lC)), .val (.int r17), .val (.int r19), .val (.int r21), .val (.ref xs140), .val .null, .val (.ref xs188), .unset, .unset] []))
            refine GoW.on (fun t k => XS.iconst Y188.here hx rfl (hb hby at_312) k) ?_
            show GoW p.tables e below s _ _ _ _ _ (T188.setTop (mkF m 313 #[.val (.int p1), .val (.int p2), .val (.int p3), .val (.int p4), .val (.int bT), .val (.int bC), .val (.int (Int32.ofNat lT)), .val (.int (Int32.ofNat lC)), .val (.int nT), .val (.int nC), .val (.int (Int32.ofNat lR)), .val (.int cp), .val (.int r11), .val (.int r13), .val (.int r15), .val (.int r17), .val (.int r19), .val (.int r21), .val (.int (Int32.ofNat lC)), .val (.int r17), .val (.int r19), .val (.int r21), .val (.ref xs140), .val .null, .val (.ref xs188), .unset, .unset] [(.int (0 : Int32))]))
            have eJ : own_b ((([r11, r13, r15] : List Int32).take lT) = ([69, 68] : List Int32)) = 0 := own_bf (fun q => hc291_195 ((own_num hlT (by decide : 2 ≤ 3)).mpr ((own_tk hlT).mp q).1))
            rw [eJ] at kJ
            exact kJ
        refine J194 ?_
        show GoW p.tables e below s _ _ _ _ _ (T188.setTop (mkF m 313 #[.val (.int p1), .val (.int p2), .val (.int p3), .val (.int p4), .val (.int bT), .val (.int bC), .val (.int (Int32.ofNat lT)), .val (.int (Int32.ofNat lC)), .val (.int nT), .val (.int nC), .val (.int (Int32.ofNat lR)), .val (.int cp), .val (.int r11), .val (.int r13), .val (.int r15), .val (.int r17), .val (.int r19), .val (.int r21), .val (.int (Int32.ofNat lC)), .val (.int r17), .val (.int r19), .val (.int r21), .val (.ref xs140), .val .null, .val (.ref xs188), .unset, .unset] [(.int (own_b ((([r11, r13, r15] : List Int32).take lT) = ([69, 68] : List Int32))))]))
        refine GoW.on (fun t k => XS.istore Y188.here hx rfl (hb hby at_313) rfl (l' := #[.val (.int p1), .val (.int p2), .val (.int p3), .val (.int p4), .val (.int bT), .val (.int bC), .val (.int (Int32.ofNat lT)), .val (.int (Int32.ofNat lC)), .val (.int nT), .val (.int nC), .val (.int (Int32.ofNat lR)), .val (.int cp), .val (.int r11), .val (.int r13), .val (.int r15), .val (.int r17), .val (.int r19), .val (.int r21), .val (.int (Int32.ofNat lC)), .val (.int r17), .val (.int r19), .val (.int r21), .val (.ref xs140), .val .null, .val (.ref xs188), .val (.int (own_b ((([r11, r13, r15] : List Int32).take lT) = ([69, 68] : List Int32)))), .unset]) rfl (XS.iload Y188.here hx rfl (hb hby at_315) rfl k)) ?_
        show GoW p.tables e below s _ _ _ _ _ (T188.setTop (mkF m 317 #[.val (.int p1), .val (.int p2), .val (.int p3), .val (.int p4), .val (.int bT), .val (.int bC), .val (.int (Int32.ofNat lT)), .val (.int (Int32.ofNat lC)), .val (.int nT), .val (.int nC), .val (.int (Int32.ofNat lR)), .val (.int cp), .val (.int r11), .val (.int r13), .val (.int r15), .val (.int r17), .val (.int r19), .val (.int r21), .val (.int (Int32.ofNat lC)), .val (.int r17), .val (.int r19), .val (.int r21), .val (.ref xs140), .val .null, .val (.ref xs188), .val (.int (own_b ((([r11, r13, r15] : List Int32).take lT) = ([69, 68] : List Int32)))), .unset] [(.int nC)]))
        refine GoW.on (fun t k => XS.ifYes Y188.here hx rfl (pc0 := 317) (pc' := 370) rfl (hb hby at_317) rfl ((if0 _ _).trans (feq hnC).2) (by decide) (by decide) k) ?_
        show GoW p.tables e below s _ _ _ _ _ (T188.setTop (mkF m 370 #[.val (.int p1), .val (.int p2), .val (.int p3), .val (.int p4), .val (.int bT), .val (.int bC), .val (.int (Int32.ofNat lT)), .val (.int (Int32.ofNat lC)), .val (.int nT), .val (.int nC), .val (.int (Int32.ofNat lR)), .val (.int cp), .val (.int r11), .val (.int r13), .val (.int r15), .val (.int r17), .val (.int r19), .val (.int r21), .val (.int (Int32.ofNat lC)), .val (.int r17), .val (.int r19), .val (.int r21), .val (.ref xs140), .val .null, .val (.ref xs188), .val (.int (own_b ((([r11, r13, r15] : List Int32).take lT) = ([69, 68] : List Int32)))), .unset] []))
        refine GoW.on (fun t k => XS.iconst Y188.here hx rfl (hb hby at_370) (XS.istore Y188.here hx rfl (hb hby at_371) rfl (l' := #[.val (.int p1), .val (.int p2), .val (.int p3), .val (.int p4), .val (.int bT), .val (.int bC), .val (.int (Int32.ofNat lT)), .val (.int (Int32.ofNat lC)), .val (.int nT), .val (.int nC), .val (.int (Int32.ofNat lR)), .val (.int cp), .val (.int r11), .val (.int r13), .val (.int r15), .val (.int r17), .val (.int r19), .val (.int r21), .val (.int (Int32.ofNat lC)), .val (.int r17), .val (.int r19), .val (.int r21), .val (.ref xs140), .val .null, .val (.ref xs188), .val (.int (own_b ((([r11, r13, r15] : List Int32).take lT) = ([69, 68] : List Int32)))), .val (.int (0 : Int32))]) rfl (XS.aload Y188.here hx rfl (hb hby at_373) rfl rfl (XS.aload Y188.here hx rfl (hb hby at_375) rfl rfl (XS.aload Y188.here hx rfl (hb hby at_377) rfl rfl k))))) ?_
        show GoW p.tables e below s _ _ _ _ _ (T188.setTop (mkF m 379 #[.val (.int p1), .val (.int p2), .val (.int p3), .val (.int p4), .val (.int bT), .val (.int bC), .val (.int (Int32.ofNat lT)), .val (.int (Int32.ofNat lC)), .val (.int nT), .val (.int nC), .val (.int (Int32.ofNat lR)), .val (.int cp), .val (.int r11), .val (.int r13), .val (.int r15), .val (.int r17), .val (.int r19), .val (.int r21), .val (.int (Int32.ofNat lC)), .val (.int r17), .val (.int r19), .val (.int r21), .val (.ref xs140), .val .null, .val (.ref xs188), .val (.int (own_b ((([r11, r13, r15] : List Int32).take lT) = ([69, 68] : List Int32)))), .val (.int (0 : Int32))] [(.ref xs188), .null, (.ref xs140)]))
        obtain ⟨_, _, ⟨T198, L198, k198, n198⟩, -, X198, Sn198, Gr198, ⟨Lc198, hQ198, l198, y198, z198, C198⟩, st198⟩ := callSS Y188 hx (y := (⟨"com/example/rhythmwire/rhythmwire/idc/CommonSegments", "isReport", "(Ljava/lang/String;Ljava/lang/String;Ljava/lang/String;)Z"⟩ : MethodName)) hown188 (mvT hZ188 (hw _ (List.mem_of_getElem? (i := 29) rfl))) (mvT hZ188 (hw _ (List.mem_of_getElem? (i := 30) rfl))) (mvT hZ188 (hw _ (List.mem_of_getElem? (i := 31) rfl))) (mvT hZ188 (hw _ (List.mem_of_getElem? (i := 32) rfl))) (by decide) (backOfSH (W := 0) (rm6rn l Z a0 hw [] xs140 xs188 G1 (([r11, r13, r15] : List Int32).take lT) (([r17, r19, r21] : List Int32).take lC) T188.heap n0 Zp192 Old0_190 O2 P5 P140_191 P188_0) hZ188 (hw _ (List.mem_of_getElem? (i := 32) rfl)) (hw _ (List.mem_of_getElem? (i := 31) rfl)) (by decide) (by decide) hEL Ch189.1) (g := (mkF m 379 #[.val (.int p1), .val (.int p2), .val (.int p3), .val (.int p4), .val (.int bT), .val (.int bC), .val (.int (Int32.ofNat lT)), .val (.int (Int32.ofNat lC)), .val (.int nT), .val (.int nC), .val (.int (Int32.ofNat lR)), .val (.int cp), .val (.int r11), .val (.int r13), .val (.int r15), .val (.int r17), .val (.int r19), .val (.int r21), .val (.int (Int32.ofNat lC)), .val (.int r17), .val (.int r19), .val (.int r21), .val (.ref xs140), .val .null, .val (.ref xs188), .val (.int (own_b ((([r11, r13, r15] : List Int32).take lT) = ([69, 68] : List Int32)))), .val (.int (0 : Int32))] [(.ref xs188), .null, (.ref xs140)])) rfl (by rw [hml]; rfl) (argsL := [(.ref xs140), .null, (.ref xs188)]) (rest := []) (lenOf pd__40_Ljava_47_lang_47_String_59_Ljava_47_lang_47_String_59_Ljava_47_lang_47_String_59__41_Z rfl) rfl (by show 2 * 0 + _ ≤ _; exact Nat.le_of_eq rfl) (hb hby at_379) (fun _ _ => ⟨rfl, rfl, (by decide : ((((((((0 + 0) + 0) + 0) + 0) + 0) + 0) + 6) + 6) + 2 ≤ _), (by decide : ((((((((0 + 0) + 0) + 0) + 0) + 0) + 0) + 12) + 12) + 12 ≤ _)⟩)
        dsimp only [Pt.U, Pt.locs, Pt.cells, Pt.slots] at X198 l198 y198 z198 st198 hQ198 Sn198 Gr198 C198
        rw [l198, y198, z198] at X198
        obtain ⟨Y198, hS198, hZ198, hown198⟩ := rebS hS188 (Nat.le_refl _) X198 Sn198 Gr198 hZ188 hown188
        obtain ⟨rfl, Nq198, Kq198⟩ := hQ198
        have Ch199 := Ch189.trans C198
        have Old0_200 := Old0_190.keep Kq198 all0
        have P140_201 := P140_191.keep0 Kq198
        have P188_202 := P188_0.keep0 Kq198
        have Zp203 := Nat.le_trans Zp192 Kq198.1
        have Np204 := Fr.app Np193 Nq198
        refine GoW.via st198 ?_
        show GoW p.tables e below s _ _ _ _ _ (T198.setTop (mkF m 382 #[.val (.int p1), .val (.int p2), .val (.int p3), .val (.int p4), .val (.int bT), .val (.int bC), .val (.int (Int32.ofNat lT)), .val (.int (Int32.ofNat lC)), .val (.int nT), .val (.int nC), .val (.int (Int32.ofNat lR)), .val (.int cp), .val (.int r11), .val (.int r13), .val (.int r15), .val (.int r17), .val (.int r19), .val (.int r21), .val (.int (Int32.ofNat lC)), .val (.int r17), .val (.int r19), .val (.int r21), .val (.ref xs140), .val .null, .val (.ref xs188), .val (.int (own_b ((([r11, r13, r15] : List Int32).take lT) = ([69, 68] : List Int32)))), .val (.int (0 : Int32))] [(.int (0 : Int32))]))
        refine GoW.on (fun t k => XS.iload Y198.here hx rfl (hb hby at_382) rfl k) ?_
        show GoW p.tables e below s _ _ _ _ _ (T198.setTop (mkF m 384 #[.val (.int p1), .val (.int p2), .val (.int p3), .val (.int p4), .val (.int bT), .val (.int bC), .val (.int (Int32.ofNat lT)), .val (.int (Int32.ofNat lC)), .val (.int nT), .val (.int nC), .val (.int (Int32.ofNat lR)), .val (.int cp), .val (.int r11), .val (.int r13), .val (.int r15), .val (.int r17), .val (.int r19), .val (.int r21), .val (.int (Int32.ofNat lC)), .val (.int r17), .val (.int r19), .val (.int r21), .val (.ref xs140), .val .null, .val (.ref xs188), .val (.int (own_b ((([r11, r13, r15] : List Int32).take lT) = ([69, 68] : List Int32)))), .val (.int (0 : Int32))] [(.int (own_b ((([r11, r13, r15] : List Int32).take lT) = ([69, 68] : List Int32)))), (.int (0 : Int32))]))
        by_cases hc384_205 : (own_b ((([r11, r13, r15] : List Int32).take lT) = ([69, 68] : List Int32))) = (0 : Int32)
        · refine GoW.on (fun t k => XS.ifYes Y198.here hx rfl (pc0 := 384) (pc' := 396) rfl (hb hby at_384) rfl ((if0 _ _).trans (teq hc384_205).1) (by decide) (by decide) k) ?_
          show GoW p.tables e below s _ _ _ _ _ (T198.setTop (mkF m 396 #[.val (.int p1), .val (.int p2), .val (.int p3), .val (.int p4), .val (.int bT), .val (.int bC), .val (.int (Int32.ofNat lT)), .val (.int (Int32.ofNat lC)), .val (.int nT), .val (.int nC), .val (.int (Int32.ofNat lR)), .val (.int cp), .val (.int r11), .val (.int r13), .val (.int r15), .val (.int r17), .val (.int r19), .val (.int r21), .val (.int (Int32.ofNat lC)), .val (.int r17), .val (.int r19), .val (.int r21), .val (.ref xs140), .val .null, .val (.ref xs188), .val (.int (own_b ((([r11, r13, r15] : List Int32).take lT) = ([69, 68] : List Int32)))), .val (.int (0 : Int32))] [(.int (0 : Int32))]))
          refine GoW.on (fun t k => XS.iconst Y198.here hx rfl (hb hby at_396) k) ?_
          show GoW p.tables e below s _ _ _ _ _ (T198.setTop (mkF m 397 #[.val (.int p1), .val (.int p2), .val (.int p3), .val (.int p4), .val (.int bT), .val (.int bC), .val (.int (Int32.ofNat lT)), .val (.int (Int32.ofNat lC)), .val (.int nT), .val (.int nC), .val (.int (Int32.ofNat lR)), .val (.int cp), .val (.int r11), .val (.int r13), .val (.int r15), .val (.int r17), .val (.int r19), .val (.int r21), .val (.int (Int32.ofNat lC)), .val (.int r17), .val (.int r19), .val (.int r21), .val (.ref xs140), .val .null, .val (.ref xs188), .val (.int (own_b ((([r11, r13, r15] : List Int32).take lT) = ([69, 68] : List Int32)))), .val (.int (0 : Int32))] [(.int (0 : Int32)), (.int (0 : Int32))]))
          refine GoW.on (fun t k => XS.icmpNo Y198.here hx rfl (hb hby at_397) rfl (teq (by decide : (0 : Int32) = (0 : Int32))).2 k) ?_
          show GoW p.tables e below s _ _ _ _ _ (T198.setTop (mkF m 400 #[.val (.int p1), .val (.int p2), .val (.int p3), .val (.int p4), .val (.int bT), .val (.int bC), .val (.int (Int32.ofNat lT)), .val (.int (Int32.ofNat lC)), .val (.int nT), .val (.int nC), .val (.int (Int32.ofNat lR)), .val (.int cp), .val (.int r11), .val (.int r13), .val (.int r15), .val (.int r17), .val (.int r19), .val (.int r21), .val (.int (Int32.ofNat lC)), .val (.int r17), .val (.int r19), .val (.int r21), .val (.ref xs140), .val .null, .val (.ref xs188), .val (.int (own_b ((([r11, r13, r15] : List Int32).take lT) = ([69, 68] : List Int32)))), .val (.int (0 : Int32))] []))
          refine GoW.on (fun t k => XS.iconst Y198.here hx rfl (hb hby at_400) (XS.goto Y198.here hx rfl (pc0 := 401) (pc' := 405) rfl (hb hby at_401) (by decide) (by decide) k)) ?_
          show GoW p.tables e below s _ _ _ _ _ (T198.setTop (mkF m 405 #[.val (.int p1), .val (.int p2), .val (.int p3), .val (.int p4), .val (.int bT), .val (.int bC), .val (.int (Int32.ofNat lT)), .val (.int (Int32.ofNat lC)), .val (.int nT), .val (.int nC), .val (.int (Int32.ofNat lR)), .val (.int cp), .val (.int r11), .val (.int r13), .val (.int r15), .val (.int r17), .val (.int r19), .val (.int r21), .val (.int (Int32.ofNat lC)), .val (.int r17), .val (.int r19), .val (.int r21), .val (.ref xs140), .val .null, .val (.ref xs188), .val (.int (own_b ((([r11, r13, r15] : List Int32).take lT) = ([69, 68] : List Int32)))), .val (.int (0 : Int32))] [(.int (1 : Int32))]))
          refine GoW.retN Y198 hx hlk hZ198 hS198 (Nat.le_refl _) hEL Ch199 (t := .boolean) Bd.returns (by simp) (hb hby at_405) (by decide) (by decide) rfl ?_
          exact ⟨rfl, Np204⟩
        · refine GoW.on (fun t k => XS.ifNo Y198.here hx rfl (hb hby at_384) rfl ((if0 _ _).trans (feq hc384_205).1) k) ?_
          show GoW p.tables e below s _ _ _ _ _ (T198.setTop (mkF m 387 #[.val (.int p1), .val (.int p2), .val (.int p3), .val (.int p4), .val (.int bT), .val (.int bC), .val (.int (Int32.ofNat lT)), .val (.int (Int32.ofNat lC)), .val (.int nT), .val (.int nC), .val (.int (Int32.ofNat lR)), .val (.int cp), .val (.int r11), .val (.int r13), .val (.int r15), .val (.int r17), .val (.int r19), .val (.int r21), .val (.int (Int32.ofNat lC)), .val (.int r17), .val (.int r19), .val (.int r21), .val (.ref xs140), .val .null, .val (.ref xs188), .val (.int (own_b ((([r11, r13, r15] : List Int32).take lT) = ([69, 68] : List Int32)))), .val (.int (0 : Int32))] [(.int (0 : Int32))]))
          refine GoW.on (fun t k => XS.iload Y198.here hx rfl (hb hby at_387) rfl k) ?_
          show GoW p.tables e below s _ _ _ _ _ (T198.setTop (mkF m 389 #[.val (.int p1), .val (.int p2), .val (.int p3), .val (.int p4), .val (.int bT), .val (.int bC), .val (.int (Int32.ofNat lT)), .val (.int (Int32.ofNat lC)), .val (.int nT), .val (.int nC), .val (.int (Int32.ofNat lR)), .val (.int cp), .val (.int r11), .val (.int r13), .val (.int r15), .val (.int r17), .val (.int r19), .val (.int r21), .val (.int (Int32.ofNat lC)), .val (.int r17), .val (.int r19), .val (.int r21), .val (.ref xs140), .val .null, .val (.ref xs188), .val (.int (own_b ((([r11, r13, r15] : List Int32).take lT) = ([69, 68] : List Int32)))), .val (.int (0 : Int32))] [(.int (0 : Int32)), (.int (0 : Int32))]))
          refine GoW.on (fun t k => XS.ifYes Y198.here hx rfl (pc0 := 389) (pc' := 396) rfl (hb hby at_389) rfl ((if0 _ _).trans (teq (by decide : (0 : Int32) = (0 : Int32))).1) (by decide) (by decide) k) ?_
          show GoW p.tables e below s _ _ _ _ _ (T198.setTop (mkF m 396 #[.val (.int p1), .val (.int p2), .val (.int p3), .val (.int p4), .val (.int bT), .val (.int bC), .val (.int (Int32.ofNat lT)), .val (.int (Int32.ofNat lC)), .val (.int nT), .val (.int nC), .val (.int (Int32.ofNat lR)), .val (.int cp), .val (.int r11), .val (.int r13), .val (.int r15), .val (.int r17), .val (.int r19), .val (.int r21), .val (.int (Int32.ofNat lC)), .val (.int r17), .val (.int r19), .val (.int r21), .val (.ref xs140), .val .null, .val (.ref xs188), .val (.int (own_b ((([r11, r13, r15] : List Int32).take lT) = ([69, 68] : List Int32)))), .val (.int (0 : Int32))] [(.int (0 : Int32))]))
          refine GoW.on (fun t k => XS.iconst Y198.here hx rfl (hb hby at_396) k) ?_
          show GoW p.tables e below s _ _ _ _ _ (T198.setTop (mkF m 397 #[.val (.int p1), .val (.int p2), .val (.int p3), .val (.int p4), .val (.int bT), .val (.int bC), .val (.int (Int32.ofNat lT)), .val (.int (Int32.ofNat lC)), .val (.int nT), .val (.int nC), .val (.int (Int32.ofNat lR)), .val (.int cp), .val (.int r11), .val (.int r13), .val (.int r15), .val (.int r17), .val (.int r19), .val (.int r21), .val (.int (Int32.ofNat lC)), .val (.int r17), .val (.int r19), .val (.int r21), .val (.ref xs140), .val .null, .val (.ref xs188), .val (.int (own_b ((([r11, r13, r15] : List Int32).take lT) = ([69, 68] : List Int32)))), .val (.int (0 : Int32))] [(.int (0 : Int32)), (.int (0 : Int32))]))
          refine GoW.on (fun t k => XS.icmpNo Y198.here hx rfl (hb hby at_397) rfl (teq (by decide : (0 : Int32) = (0 : Int32))).2 k) ?_
          show GoW p.tables e below s _ _ _ _ _ (T198.setTop (mkF m 400 #[.val (.int p1), .val (.int p2), .val (.int p3), .val (.int p4), .val (.int bT), .val (.int bC), .val (.int (Int32.ofNat lT)), .val (.int (Int32.ofNat lC)), .val (.int nT), .val (.int nC), .val (.int (Int32.ofNat lR)), .val (.int cp), .val (.int r11), .val (.int r13), .val (.int r15), .val (.int r17), .val (.int r19), .val (.int r21), .val (.int (Int32.ofNat lC)), .val (.int r17), .val (.int r19), .val (.int r21), .val (.ref xs140), .val .null, .val (.ref xs188), .val (.int (own_b ((([r11, r13, r15] : List Int32).take lT) = ([69, 68] : List Int32)))), .val (.int (0 : Int32))] []))
          refine GoW.on (fun t k => XS.iconst Y198.here hx rfl (hb hby at_400) (XS.goto Y198.here hx rfl (pc0 := 401) (pc' := 405) rfl (hb hby at_401) (by decide) (by decide) k)) ?_
          show GoW p.tables e below s _ _ _ _ _ (T198.setTop (mkF m 405 #[.val (.int p1), .val (.int p2), .val (.int p3), .val (.int p4), .val (.int bT), .val (.int bC), .val (.int (Int32.ofNat lT)), .val (.int (Int32.ofNat lC)), .val (.int nT), .val (.int nC), .val (.int (Int32.ofNat lR)), .val (.int cp), .val (.int r11), .val (.int r13), .val (.int r15), .val (.int r17), .val (.int r19), .val (.int r21), .val (.int (Int32.ofNat lC)), .val (.int r17), .val (.int r19), .val (.int r21), .val (.ref xs140), .val .null, .val (.ref xs188), .val (.int (own_b ((([r11, r13, r15] : List Int32).take lT) = ([69, 68] : List Int32)))), .val (.int (0 : Int32))] [(.int (1 : Int32))]))
          refine GoW.retN Y198 hx hlk hZ198 hS198 (Nat.le_refl _) hEL Ch199 (t := .boolean) Bd.returns (by simp) (hb hby at_405) (by decide) (by decide) rfl ?_
          exact ⟨rfl, Np204⟩
    · refine GoW.on (fun t k => XS.ifNo X21.here hx rfl (hb hby at_228) rfl ((if0 _ _).trans (feq hnT).1) k) ?_
      show GoW p.tables e below s _ _ _ _ _ (T21.setTop (mkF m 231 #[.val (.int p1), .val (.int p2), .val (.int p3), .val (.int p4), .val (.int bT), .val (.int bC), .val (.int (Int32.ofNat lT)), .val (.int (Int32.ofNat lC)), .val (.int nT), .val (.int nC), .val (.int (Int32.ofNat lR)), .val (.int cp), .val (.int r11), .val (.int r13), .val (.int r15), .val (.int r17), .val (.int r19), .val (.int r21), .val (.int (Int32.ofNat lC)), .val (.int r17), .val (.int r19), .val (.int r21), .unset, .unset, .unset, .unset, .unset] []))
      refine GoW.on (fun t k => XS.aconstNull X21.here hx rfl (hb hby at_231) (XS.goto X21.here hx rfl (pc0 := 232) (pc' := 246) rfl (hb hby at_232) (by decide) (by decide) (XS.astore X21.here hx rfl (hb hby at_246) rfl rfl (l' := #[.val (.int p1), .val (.int p2), .val (.int p3), .val (.int p4), .val (.int bT), .val (.int bC), .val (.int (Int32.ofNat lT)), .val (.int (Int32.ofNat lC)), .val (.int nT), .val (.int nC), .val (.int (Int32.ofNat lR)), .val (.int cp), .val (.int r11), .val (.int r13), .val (.int r15), .val (.int r17), .val (.int r19), .val (.int r21), .val (.int (Int32.ofNat lC)), .val (.int r17), .val (.int r19), .val (.int r21), .val .null, .unset, .unset, .unset, .unset]) rfl (XS.iload X21.here hx rfl (hb hby at_248) rfl k)))) ?_
      show GoW p.tables e below s _ _ _ _ _ (T21.setTop (mkF m 250 #[.val (.int p1), .val (.int p2), .val (.int p3), .val (.int p4), .val (.int bT), .val (.int bC), .val (.int (Int32.ofNat lT)), .val (.int (Int32.ofNat lC)), .val (.int nT), .val (.int nC), .val (.int (Int32.ofNat lR)), .val (.int cp), .val (.int r11), .val (.int r13), .val (.int r15), .val (.int r17), .val (.int r19), .val (.int r21), .val (.int (Int32.ofNat lC)), .val (.int r17), .val (.int r19), .val (.int r21), .val .null, .unset, .unset, .unset, .unset] [(.int nC)]))
      by_cases hnC : nC = (0 : Int32)
      · refine GoW.on (fun t k => XS.ifYes X21.here hx rfl (pc0 := 250) (pc' := 257) rfl (hb hby at_250) rfl ((if0 _ _).trans (teq hnC).1) (by decide) (by decide) k) ?_
        show GoW p.tables e below s _ _ _ _ _ (T21.setTop (mkF m 257 #[.val (.int p1), .val (.int p2), .val (.int p3), .val (.int p4), .val (.int bT), .val (.int bC), .val (.int (Int32.ofNat lT)), .val (.int (Int32.ofNat lC)), .val (.int nT), .val (.int nC), .val (.int (Int32.ofNat lR)), .val (.int cp), .val (.int r11), .val (.int r13), .val (.int r15), .val (.int r17), .val (.int r19), .val (.int r21), .val (.int (Int32.ofNat lC)), .val (.int r17), .val (.int r19), .val (.int r21), .val .null, .unset, .unset, .unset, .unset] []))
        refine GoW.on (fun t k => XS.iload X21.here hx rfl (hb hby at_257) rfl (XS.iload X21.here hx rfl (hb hby at_259) rfl (XS.iload X21.here hx rfl (hb hby at_261) rfl (XS.iload X21.here hx rfl (hb hby at_263) rfl k)))) ?_
        show GoW p.tables e below s _ _ _ _ _ (T21.setTop (mkF m 265 #[.val (.int p1), .val (.int p2), .val (.int p3), .val (.int p4), .val (.int bT), .val (.int bC), .val (.int (Int32.ofNat lT)), .val (.int (Int32.ofNat lC)), .val (.int nT), .val (.int nC), .val (.int (Int32.ofNat lR)), .val (.int cp), .val (.int r11), .val (.int r13), .val (.int r15), .val (.int r17), .val (.int r19), .val (.int r21), .val (.int (Int32.ofNat lC)), .val (.int r17), .val (.int r19), .val (.int r21), .val .null, .unset, .unset, .unset, .unset] [(.int r21), (.int r19), (.int r17), (.int (Int32.ofNat lC))]))
        obtain ⟨_, _, ⟨T206, L206, k206, n206⟩, -, X206, Sn206, Gr206, ⟨Lc206, hQ206, l206, y206, z206, C206⟩, st206⟩ := callSS X21 hx (y := (⟨"com/example/rhythmwire/rhythmwire/idc/CommonSegmentsIsReportPinLaw", "str", "(ICCC)Ljava/lang/String;"⟩ : MethodName)) hown (mvT hZ (hw _ (List.mem_of_getElem? (i := 4) rfl))) (mvT hZ (hw _ (List.mem_of_getElem? (i := 5) rfl))) (mvT hZ (hw _ (List.mem_of_getElem? (i := 2) rfl))) (mvT hZ (hw _ (List.mem_of_getElem? (i := 6) rfl))) (by decide) (backOfSH (W := 0) (rm2 l Z a0 hw [] (Int32.ofNat lC) r17 r19 r21 G1 lC h0 n0 Z0 Old0 O2 P5 rfl hlC P17_0 P19_0 P21_0) hZ (hw _ (List.mem_of_getElem? (i := 6) rfl)) (hw _ (List.mem_of_getElem? (i := 2) rfl)) (by decide) (by decide) hEL Ch0.1) (g := (mkF m 265 #[.val (.int p1), .val (.int p2), .val (.int p3), .val (.int p4), .val (.int bT), .val (.int bC), .val (.int (Int32.ofNat lT)), .val (.int (Int32.ofNat lC)), .val (.int nT), .val (.int nC), .val (.int (Int32.ofNat lR)), .val (.int cp), .val (.int r11), .val (.int r13), .val (.int r15), .val (.int r17), .val (.int r19), .val (.int r21), .val (.int (Int32.ofNat lC)), .val (.int r17), .val (.int r19), .val (.int r21), .val .null, .unset, .unset, .unset, .unset] [(.int r21), (.int r19), (.int r17), (.int (Int32.ofNat lC))])) rfl (by rw [hml]; rfl) (argsL := [(.int (Int32.ofNat lC)), (.int r17), (.int r19), (.int r21)]) (rest := []) (lenOf pd__40_ICCC_41_Ljava_47_lang_47_String_59_ rfl) rfl (by show 2 * 0 + _ ≤ _; exact Nat.le_of_eq rfl) (hb hby at_265) (fun _ _ => ⟨rfl, e21, (by decide : ((((((0 + 0) + 0) + 0) + 0) + 0) + 0) + 6 ≤ _), (by decide : ((((((0 + 0) + 0) + 0) + 0) + 0) + 0) + 12 ≤ _)⟩)
        dsimp only [Pt.U, Pt.locs, Pt.cells, Pt.slots] at X206 l206 y206 z206 st206 hQ206 Sn206 Gr206 C206
        rw [l206, y206, z206] at X206
        obtain ⟨Y206, hS206, hZ206, hown206⟩ := rebS hS0 (Nat.le_trans hk0 (Nat.le_of_eq (congrArg Array.size e21.symm))) X206 Sn206 Gr206 hZ hown
        obtain ⟨xs206, rfl, Nq206, Kq206, P206_0⟩ := hQ206
        have Ch207 := Ch0.trans C206
        have Old0_208 := Old0.keep Kq206 all0
        have Zp209 := Nat.le_trans Z0 Kq206.1
        have Np210 := Fr.app Np22 Nq206
        refine GoW.via st206 ?_
        show GoW p.tables e below s _ _ _ _ _ (T206.setTop (mkF m 268 #[.val (.int p1), .val (.int p2), .val (.int p3), .val (.int p4), .val (.int bT), .val (.int bC), .val (.int (Int32.ofNat lT)), .val (.int (Int32.ofNat lC)), .val (.int nT), .val (.int nC), .val (.int (Int32.ofNat lR)), .val (.int cp), .val (.int r11), .val (.int r13), .val (.int r15), .val (.int r17), .val (.int r19), .val (.int r21), .val (.int (Int32.ofNat lC)), .val (.int r17), .val (.int r19), .val (.int r21), .val .null, .unset, .unset, .unset, .unset] [(.ref xs206)]))
        refine GoW.on (fun t k => XS.astore Y206.here hx rfl (hb hby at_268) rfl rfl (l' := #[.val (.int p1), .val (.int p2), .val (.int p3), .val (.int p4), .val (.int bT), .val (.int bC), .val (.int (Int32.ofNat lT)), .val (.int (Int32.ofNat lC)), .val (.int nT), .val (.int nC), .val (.int (Int32.ofNat lR)), .val (.int cp), .val (.int r11), .val (.int r13), .val (.int r15), .val (.int r17), .val (.int r19), .val (.int r21), .val (.int (Int32.ofNat lC)), .val (.int r17), .val (.int r19), .val (.int r21), .val .null, .val (.ref xs206), .unset, .unset, .unset]) rfl (XS.iload Y206.here hx rfl (hb hby at_270) rfl (XS.iload Y206.here hx rfl (hb hby at_272) rfl (XS.iload Y206.here hx rfl (hb hby at_274) rfl (XS.iload Y206.here hx rfl (hb hby at_276) rfl k))))) ?_
        show GoW p.tables e below s _ _ _ _ _ (T206.setTop (mkF m 278 #[.val (.int p1), .val (.int p2), .val (.int p3), .val (.int p4), .val (.int bT), .val (.int bC), .val (.int (Int32.ofNat lT)), .val (.int (Int32.ofNat lC)), .val (.int nT), .val (.int nC), .val (.int (Int32.ofNat lR)), .val (.int cp), .val (.int r11), .val (.int r13), .val (.int r15), .val (.int r17), .val (.int r19), .val (.int r21), .val (.int (Int32.ofNat lC)), .val (.int r17), .val (.int r19), .val (.int r21), .val .null, .val (.ref xs206), .unset, .unset, .unset] [(.int r21), (.int r19), (.int r17), (.int (Int32.ofNat lC))]))
        obtain ⟨_, _, ⟨T211, L211, k211, n211⟩, -, X211, Sn211, Gr211, ⟨Lc211, hQ211, l211, y211, z211, C211⟩, st211⟩ := callSS Y206 hx (y := (⟨"com/example/rhythmwire/rhythmwire/idc/CommonSegmentsIsReportPinLaw", "str", "(ICCC)Ljava/lang/String;"⟩ : MethodName)) hown206 (mvT hZ206 (hw _ (List.mem_of_getElem? (i := 4) rfl))) (mvT hZ206 (hw _ (List.mem_of_getElem? (i := 5) rfl))) (mvT hZ206 (hw _ (List.mem_of_getElem? (i := 2) rfl))) (mvT hZ206 (hw _ (List.mem_of_getElem? (i := 6) rfl))) (by decide) (backOfSH (W := 0) (rm2 l Z a0 hw [] (Int32.ofNat lC) r17 r19 r21 G1 lC T206.heap n0 Zp209 Old0_208 O2 P5 rfl hlC P17_0 P19_0 P21_0) hZ206 (hw _ (List.mem_of_getElem? (i := 6) rfl)) (hw _ (List.mem_of_getElem? (i := 2) rfl)) (by decide) (by decide) hEL Ch207.1) (g := (mkF m 278 #[.val (.int p1), .val (.int p2), .val (.int p3), .val (.int p4), .val (.int bT), .val (.int bC), .val (.int (Int32.ofNat lT)), .val (.int (Int32.ofNat lC)), .val (.int nT), .val (.int nC), .val (.int (Int32.ofNat lR)), .val (.int cp), .val (.int r11), .val (.int r13), .val (.int r15), .val (.int r17), .val (.int r19), .val (.int r21), .val (.int (Int32.ofNat lC)), .val (.int r17), .val (.int r19), .val (.int r21), .val .null, .val (.ref xs206), .unset, .unset, .unset] [(.int r21), (.int r19), (.int r17), (.int (Int32.ofNat lC))])) rfl (by rw [hml]; rfl) (argsL := [(.int (Int32.ofNat lC)), (.int r17), (.int r19), (.int r21)]) (rest := []) (lenOf pd__40_ICCC_41_Ljava_47_lang_47_String_59_ rfl) rfl (by show 2 * 0 + _ ≤ _; exact Nat.le_of_eq rfl) (hb hby at_278) (fun _ _ => ⟨rfl, rfl, (by decide : (((((((0 + 0) + 0) + 0) + 0) + 0) + 0) + 6) + 6 ≤ _), (by decide : (((((((0 + 0) + 0) + 0) + 0) + 0) + 0) + 12) + 12 ≤ _)⟩)
        dsimp only [Pt.U, Pt.locs, Pt.cells, Pt.slots] at X211 l211 y211 z211 st211 hQ211 Sn211 Gr211 C211
        rw [l211, y211, z211] at X211
        obtain ⟨Y211, hS211, hZ211, hown211⟩ := rebS hS206 (Nat.le_refl _) X211 Sn211 Gr211 hZ206 hown206
        obtain ⟨xs211, rfl, Nq211, Kq211, P211_0⟩ := hQ211
        have Ch212 := Ch207.trans C211
        have Old0_213 := Old0_208.keep Kq211 all0
        have P206_214 := P206_0.keep0 Kq211
        have Zp215 := Nat.le_trans Zp209 Kq211.1
        have Np216 := Fr.app Np210 Nq211
        refine GoW.via st211 ?_
        show GoW p.tables e below s _ _ _ _ _ (T211.setTop (mkF m 281 #[.val (.int p1), .val (.int p2), .val (.int p3), .val (.int p4), .val (.int bT), .val (.int bC), .val (.int (Int32.ofNat lT)), .val (.int (Int32.ofNat lC)), .val (.int nT), .val (.int nC), .val (.int (Int32.ofNat lR)), .val (.int cp), .val (.int r11), .val (.int r13), .val (.int r15), .val (.int r17), .val (.int r19), .val (.int r21), .val (.int (Int32.ofNat lC)), .val (.int r17), .val (.int r19), .val (.int r21), .val .null, .val (.ref xs206), .unset, .unset, .unset] [(.ref xs211)]))
        refine GoW.on (fun t k => XS.astore Y211.here hx rfl (hb hby at_281) rfl rfl (l' := #[.val (.int p1), .val (.int p2), .val (.int p3), .val (.int p4), .val (.int bT), .val (.int bC), .val (.int (Int32.ofNat lT)), .val (.int (Int32.ofNat lC)), .val (.int nT), .val (.int nC), .val (.int (Int32.ofNat lR)), .val (.int cp), .val (.int r11), .val (.int r13), .val (.int r15), .val (.int r17), .val (.int r19), .val (.int r21), .val (.int (Int32.ofNat lC)), .val (.int r17), .val (.int r19), .val (.int r21), .val .null, .val (.ref xs206), .val (.ref xs211), .unset, .unset]) rfl (XS.iload Y211.here hx rfl (hb hby at_283) rfl k)) ?_
        show GoW p.tables e below s _ _ _ _ _ (T211.setTop (mkF m 285 #[.val (.int p1), .val (.int p2), .val (.int p3), .val (.int p4), .val (.int bT), .val (.int bC), .val (.int (Int32.ofNat lT)), .val (.int (Int32.ofNat lC)), .val (.int nT), .val (.int nC), .val (.int (Int32.ofNat lR)), .val (.int cp), .val (.int r11), .val (.int r13), .val (.int r15), .val (.int r17), .val (.int r19), .val (.int r21), .val (.int (Int32.ofNat lC)), .val (.int r17), .val (.int r19), .val (.int r21), .val .null, .val (.ref xs206), .val (.ref xs211), .unset, .unset] [(.int nT)]))
        refine GoW.on (fun t k => XS.ifYes Y211.here hx rfl (pc0 := 285) (pc' := 312) rfl (hb hby at_285) rfl ((if0 _ _).trans (feq hnT).2) (by decide) (by decide) k) ?_
        show GoW p.tables e below s _ _ _ _ _ (T211.setTop (mkF m 312 #[.val (.int p1), .val (.int p2), .val (.int p3), .val (.int p4), .val (.int bT), .val (.int bC), .val (.int (Int32.ofNat lT)), .val (.int (Int32.ofNat lC)), .val (.int nT), .val (.int nC), .val (.int (Int32.ofNat lR)), .val (.int cp), .val (.int r11), .val (.int r13), .val (.int r15), .val (.int r17), .val (.int r19), .val (.int r21), .val (.int (Int32.ofNat lC)), .val (.int r17), .val (.int r19), .val (.int r21), .val .null, .val (.ref xs206), .val (.ref xs211), .unset, .unset] []))
        refine GoW.on (fun t k => XS.iconst Y211.here hx rfl (hb hby at_312) (XS.istore Y211.here hx rfl (hb hby at_313) rfl (l' := #[.val (.int p1), .val (.int p2), .val (.int p3), .val (.int p4), .val (.int bT), .val (.int bC), .val (.int (Int32.ofNat lT)), .val (.int (Int32.ofNat lC)), .val (.int nT), .val (.int nC), .val (.int (Int32.ofNat lR)), .val (.int cp), .val (.int r11), .val (.int r13), .val (.int r15), .val (.int r17), .val (.int r19), .val (.int r21), .val (.int (Int32.ofNat lC)), .val (.int r17), .val (.int r19), .val (.int r21), .val .null, .val (.ref xs206), .val (.ref xs211), .val (.int (0 : Int32)), .unset]) rfl (XS.iload Y211.here hx rfl (hb hby at_315) rfl k))) ?_
        show GoW p.tables e below s _ _ _ _ _ (T211.setTop (mkF m 317 #[.val (.int p1), .val (.int p2), .val (.int p3), .val (.int p4), .val (.int bT), .val (.int bC), .val (.int (Int32.ofNat lT)), .val (.int (Int32.ofNat lC)), .val (.int nT), .val (.int nC), .val (.int (Int32.ofNat lR)), .val (.int cp), .val (.int r11), .val (.int r13), .val (.int r15), .val (.int r17), .val (.int r19), .val (.int r21), .val (.int (Int32.ofNat lC)), .val (.int r17), .val (.int r19), .val (.int r21), .val .null, .val (.ref xs206), .val (.ref xs211), .val (.int (0 : Int32)), .unset] [(.int nC)]))
        refine GoW.on (fun t k => XS.ifNo Y211.here hx rfl (hb hby at_317) rfl ((if0 _ _).trans (teq hnC).2) k) ?_
        show GoW p.tables e below s _ _ _ _ _ (T211.setTop (mkF m 320 #[.val (.int p1), .val (.int p2), .val (.int p3), .val (.int p4), .val (.int bT), .val (.int bC), .val (.int (Int32.ofNat lT)), .val (.int (Int32.ofNat lC)), .val (.int nT), .val (.int nC), .val (.int (Int32.ofNat lR)), .val (.int cp), .val (.int r11), .val (.int r13), .val (.int r15), .val (.int r17), .val (.int r19), .val (.int r21), .val (.int (Int32.ofNat lC)), .val (.int r17), .val (.int r19), .val (.int r21), .val .null, .val (.ref xs206), .val (.ref xs211), .val (.int (0 : Int32)), .unset] []))
        refine GoW.on (fun t k => XS.iload Y211.here hx rfl (hb hby at_320) rfl (XS.iload Y211.here hx rfl (hb hby at_322) rfl k)) ?_
        show GoW p.tables e below s _ _ _ _ _ (T211.setTop (mkF m 324 #[.val (.int p1), .val (.int p2), .val (.int p3), .val (.int p4), .val (.int bT), .val (.int bC), .val (.int (Int32.ofNat lT)), .val (.int (Int32.ofNat lC)), .val (.int nT), .val (.int nC), .val (.int (Int32.ofNat lR)), .val (.int cp), .val (.int r11), .val (.int r13), .val (.int r15), .val (.int r17), .val (.int r19), .val (.int r21), .val (.int (Int32.ofNat lC)), .val (.int r17), .val (.int r19), .val (.int r21), .val .null, .val (.ref xs206), .val (.ref xs211), .val (.int (0 : Int32)), .unset] [(.int (Int32.ofNat lC)), (.int (Int32.ofNat lC))]))
        have J217 : GoW p.tables e below s (Q0 Z p1 p2 p3 p4 G1 h0 n0) Z own_EL room_1.cells room_1.slots (T211.setTop (mkF m 371 #[.val (.int p1), .val (.int p2), .val (.int p3), .val (.int p4), .val (.int bT), .val (.int bC), .val (.int (Int32.ofNat lT)), .val (.int (Int32.ofNat lC)), .val (.int nT), .val (.int nC), .val (.int (Int32.ofNat lR)), .val (.int cp), .val (.int r11), .val (.int r13), .val (.int r15), .val (.int r17), .val (.int r19), .val (.int r21), .val (.int (Int32.ofNat lC)), .val (.int r17), .val (.int r19), .val (.int r21), .val .null, .val (.ref xs206), .val (.ref xs211), .val (.int (0 : Int32)), .unset] [(.int (own_b ((([r17, r19, r21] : List Int32).take lC) = (([r17, r19, r21] : List Int32).take lC))))])) → GoW p.tables e below s (Q0 Z p1 p2 p3 p4 G1 h0 n0) Z own_EL room_1.cells room_1.slots (T211.setTop (mkF m 324 #[.val (.int p1), .val (.int p2), .val (.int p3), .val (.int p4), .val (.int bT), .val (.int bC), .val (.int (Int32.ofNat lT)), .val (.int (Int32.ofNat lC)), .val (.int nT), .val (.int nC), .val (.int (Int32.ofNat lR)), .val (.int cp), .val (.int r11), .val (.int r13), .val (.int r15), .val (.int r17), .val (.int r19), .val (.int r21), .val (.int (Int32.ofNat lC)), .val (.int r17), .val (.int r19), .val (.int r21), .val .null, .val (.ref xs206), .val (.ref xs211), .val (.int (0 : Int32)), .unset] [(.int (Int32.ofNat lC)), (.int (Int32.ofNat lC))])) := by
          intro kJ
          by_cases hc324_218 : (Int32.ofNat lC) = (Int32.ofNat lC)
          · refine GoW.on (fun t k => XS.icmpNo Y211.here hx rfl (hb hby at_324) rfl (teq hc324_218).2 k) ?_
            show GoW p.tables e below s _ _ _ _ _ (T211.setTop (mkF m 327 #[.val (.int p1), .val (.int p2), .val (.int p3), .val (.int p4), .val (.int bT), .val (.int bC), .val (.int (Int32.ofNat lT)), .val (.int (Int32.ofNat lC)), .val (.int nT), .val (.int nC), .val (.int (Int32.ofNat lR)), .val (.int cp), .val (.int r11), .val (.int r13), .val (.int r15), .val (.int r17), .val (.int r19), .val (.int r21), .val (.int (Int32.ofNat lC)), .val (.int r17), .val (.int r19), .val (.int r21), .val .null, .val (.ref xs206), .val (.ref xs211), .val (.int (0 : Int32)), .unset] []))
            refine GoW.on (fun t k => XS.iload Y211.here hx rfl (hb hby at_327) rfl (XS.iconst Y211.here hx rfl (hb hby at_329) k)) ?_
            show GoW p.tables e below s _ _ _ _ _ (T211.setTop (mkF m 330 #[.val (.int p1), .val (.int p2), .val (.int p3), .val (.int p4), .val (.int bT), .val (.int bC), .val (.int (Int32.ofNat lT)), .val (.int (Int32.ofNat lC)), .val (.int nT), .val (.int nC), .val (.int (Int32.ofNat lR)), .val (.int cp), .val (.int r11), .val (.int r13), .val (.int r15), .val (.int r17), .val (.int r19), .val (.int r21), .val (.int (Int32.ofNat lC)), .val (.int r17), .val (.int r19), .val (.int r21), .val .null, .val (.ref xs206), .val (.ref xs211), .val (.int (0 : Int32)), .unset] [(.int (1 : Int32)), (.int (Int32.ofNat lC))]))
            by_cases hc330_219 : (Int32.ofNat lC) < (1 : Int32)
            · refine GoW.on (fun t k => XS.icmpYes Y211.here hx rfl (pc0 := 330) (pc' := 340) rfl (hb hby at_330) rfl (tlt hc330_219).1 (by decide) (by decide) k) ?_
              show GoW p.tables e below s _ _ _ _ _ (T211.setTop (mkF m 340 #[.val (.int p1), .val (.int p2), .val (.int p3), .val (.int p4), .val (.int bT), .val (.int bC), .val (.int (Int32.ofNat lT)), .val (.int (Int32.ofNat lC)), .val (.int nT), .val (.int nC), .val (.int (Int32.ofNat lR)), .val (.int cp), .val (.int r11), .val (.int r13), .val (.int r15), .val (.int r17), .val (.int r19), .val (.int r21), .val (.int (Int32.ofNat lC)), .val (.int r17), .val (.int r19), .val (.int r21), .val .null, .val (.ref xs206), .val (.ref xs211), .val (.int (0 : Int32)), .unset] []))
              refine GoW.on (fun t k => XS.iload Y211.here hx rfl (hb hby at_340) rfl (XS.iconst Y211.here hx rfl (hb hby at_342) k)) ?_
              show GoW p.tables e below s _ _ _ _ _ (T211.setTop (mkF m 343 #[.val (.int p1), .val (.int p2), .val (.int p3), .val (.int p4), .val (.int bT), .val (.int bC), .val (.int (Int32.ofNat lT)), .val (.int (Int32.ofNat lC)), .val (.int nT), .val (.int nC), .val (.int (Int32.ofNat lR)), .val (.int cp), .val (.int r11), .val (.int r13), .val (.int r15), .val (.int r17), .val (.int r19), .val (.int r21), .val (.int (Int32.ofNat lC)), .val (.int r17), .val (.int r19), .val (.int r21), .val .null, .val (.ref xs206), .val (.ref xs211), .val (.int (0 : Int32)), .unset] [(.int (2 : Int32)), (.int (Int32.ofNat lC))]))
              by_cases hc343_220 : (Int32.ofNat lC) < (2 : Int32)
              · refine GoW.on (fun t k => XS.icmpYes Y211.here hx rfl (pc0 := 343) (pc' := 353) rfl (hb hby at_343) rfl (tlt hc343_220).1 (by decide) (by decide) k) ?_
                show GoW p.tables e below s _ _ _ _ _ (T211.setTop (mkF m 353 #[.val (.int p1), .val (.int p2), .val (.int p3), .val (.int p4), .val (.int bT), .val (.int bC), .val (.int (Int32.ofNat lT)), .val (.int (Int32.ofNat lC)), .val (.int nT), .val (.int nC), .val (.int (Int32.ofNat lR)), .val (.int cp), .val (.int r11), .val (.int r13), .val (.int r15), .val (.int r17), .val (.int r19), .val (.int r21), .val (.int (Int32.ofNat lC)), .val (.int r17), .val (.int r19), .val (.int r21), .val .null, .val (.ref xs206), .val (.ref xs211), .val (.int (0 : Int32)), .unset] []))
                refine GoW.on (fun t k => XS.iload Y211.here hx rfl (hb hby at_353) rfl (XS.iconst Y211.here hx rfl (hb hby at_355) k)) ?_
                show GoW p.tables e below s _ _ _ _ _ (T211.setTop (mkF m 356 #[.val (.int p1), .val (.int p2), .val (.int p3), .val (.int p4), .val (.int bT), .val (.int bC), .val (.int (Int32.ofNat lT)), .val (.int (Int32.ofNat lC)), .val (.int nT), .val (.int nC), .val (.int (Int32.ofNat lR)), .val (.int cp), .val (.int r11), .val (.int r13), .val (.int r15), .val (.int r17), .val (.int r19), .val (.int r21), .val (.int (Int32.ofNat lC)), .val (.int r17), .val (.int r19), .val (.int r21), .val .null, .val (.ref xs206), .val (.ref xs211), .val (.int (0 : Int32)), .unset] [(.int (3 : Int32)), (.int (Int32.ofNat lC))]))
                by_cases hc356_221 : (Int32.ofNat lC) < (3 : Int32)
                · refine GoW.on (fun t k => XS.icmpYes Y211.here hx rfl (pc0 := 356) (pc' := 366) rfl (hb hby at_356) rfl (tlt hc356_221).1 (by decide) (by decide) k) ?_
                  show GoW p.tables e below s _ _ _ _ _ (T211.setTop (mkF m 366 #[.val (.int p1), .val (.int p2), .val (.int p3), .val (.int p4), .val (.int bT), .val (.int bC), .val (.int (Int32.ofNat lT)), .val (.int (Int32.ofNat lC)), .val (.int nT), .val (.int nC), .val (.int (Int32.ofNat lR)), .val (.int cp), .val (.int r11), .val (.int r13), .val (.int r15), .val (.int r17), .val (.int r19), .val (.int r21), .val (.int (Int32.ofNat lC)), .val (.int r17), .val (.int r19), .val (.int r21), .val .null, .val (.ref xs206), .val (.ref xs211), .val (.int (0 : Int32)), .unset] []))
                  refine GoW.on (fun t k => XS.iconst Y211.here hx rfl (hb hby at_366) (XS.goto Y211.here hx rfl (pc0 := 367) (pc' := 371) rfl (hb hby at_367) (by decide) (by decide) k)) ?_
                  show GoW p.tables e below s _ _ _ _ _ (T211.setTop (mkF m 371 #[.val (.int p1), .val (.int p2), .val (.int p3), .val (.int p4), .val (.int bT), .val (.int bC), .val (.int (Int32.ofNat lT)), .val (.int (Int32.ofNat lC)), .val (.int nT), .val (.int nC), .val (.int (Int32.ofNat lR)), .val (.int cp), .val (.int r11), .val (.int r13), .val (.int r15), .val (.int r17), .val (.int r19), .val (.int r21), .val (.int (Int32.ofNat lC)), .val (.int r17), .val (.int r19), .val (.int r21), .val .null, .val (.ref xs206), .val (.ref xs211), .val (.int (0 : Int32)), .unset] [(.int (1 : Int32))]))
                  have eJ : own_b ((([r17, r19, r21] : List Int32).take lC) = (([r17, r19, r21] : List Int32).take lC)) = 1 := own_bt ((own_tke hlC hlC).mpr ⟨hc324_218, Or.inl hc330_219, Or.inl hc343_220, Or.inl hc356_221⟩)
                  rw [eJ] at kJ
                  exact kJ
                · refine GoW.on (fun t k => XS.icmpNo Y211.here hx rfl (hb hby at_356) rfl (flt hc356_221).1 k) ?_
                  show GoW p.tables e below s _ _ _ _ _ (T211.setTop (mkF m 359 #[.val (.int p1), .val (.int p2), .val (.int p3), .val (.int p4), .val (.int bT), .val (.int bC), .val (.int (Int32.ofNat lT)), .val (.int (Int32.ofNat lC)), .val (.int nT), .val (.int nC), .val (.int (Int32.ofNat lR)), .val (.int cp), .val (.int r11), .val (.int r13), .val (.int r15), .val (.int r17), .val (.int r19), .val (.int r21), .val (.int (Int32.ofNat lC)), .val (.int r17), .val (.int r19), .val (.int r21), .val .null, .val (.ref xs206), .val (.ref xs211), .val (.int (0 : Int32)), .unset] []))
                  refine GoW.on (fun t k => XS.iload Y211.here hx rfl (hb hby at_359) rfl (XS.iload Y211.here hx rfl (hb hby at_361) rfl k)) ?_
                  show GoW p.tables e below s _ _ _ _ _ (T211.setTop (mkF m 363 #[.val (.int p1), .val (.int p2), .val (.int p3), .val (.int p4), .val (.int bT), .val (.int bC), .val (.int (Int32.ofNat lT)), .val (.int (Int32.ofNat lC)), .val (.int nT), .val (.int nC), .val (.int (Int32.ofNat lR)), .val (.int cp), .val (.int r11), .val (.int r13), .val (.int r15), .val (.int r17), .val (.int r19), .val (.int r21), .val (.int (Int32.ofNat lC)), .val (.int r17), .val (.int r19), .val (.int r21), .val .null, .val (.ref xs206), .val (.ref xs211), .val (.int (0 : Int32)), .unset] [(.int r21), (.int r21)]))
                  by_cases hc363_222 : r21 = r21
                  · refine GoW.on (fun t k => XS.icmpNo Y211.here hx rfl (hb hby at_363) rfl (teq hc363_222).2 k) ?_
                    show GoW p.tables e below s _ _ _ _ _ (T211.setTop (mkF m 366 #[.val (.int p1), .val (.int p2), .val (.int p3), .val (.int p4), .val (.int bT), .val (.int bC), .val (.int (Int32.ofNat lT)), .val (.int (Int32.ofNat lC)), .val (.int nT), .val (.int nC), .val (.int (Int32.ofNat lR)), .val (.int cp), .val (.int r11), .val (.int r13), .val (.int r15), .val (.int r17), .val (.int r19), .val (.int r21), .val (.int (Int32.ofNat lC)), .val (.int r17), .val (.int r19), .val (.int r21), .val .null, .val (.ref xs206), .val (.ref xs211), .val (.int (0 : Int32)), .unset] []))
                    refine GoW.on (fun t k => XS.iconst Y211.here hx rfl (hb hby at_366) (XS.goto Y211.here hx rfl (pc0 := 367) (pc' := 371) rfl (hb hby at_367) (by decide) (by decide) k)) ?_
                    show GoW p.tables e below s _ _ _ _ _ (T211.setTop (mkF m 371 #[.val (.int p1), .val (.int p2), .val (.int p3), .val (.int p4), .val (.int bT), .val (.int bC), .val (.int (Int32.ofNat lT)), .val (.int (Int32.ofNat lC)), .val (.int nT), .val (.int nC), .val (.int (Int32.ofNat lR)), .val (.int cp), .val (.int r11), .val (.int r13), .val (.int r15), .val (.int r17), .val (.int r19), .val (.int r21), .val (.int (Int32.ofNat lC)), .val (.int r17), .val (.int r19), .val (.int r21), .val .null, .val (.ref xs206), .val (.ref xs211), .val (.int (0 : Int32)), .unset] [(.int (1 : Int32))]))
                    have eJ : own_b ((([r17, r19, r21] : List Int32).take lC) = (([r17, r19, r21] : List Int32).take lC)) = 1 := own_bt ((own_tke hlC hlC).mpr ⟨hc324_218, Or.inl hc330_219, Or.inl hc343_220, Or.inr hc363_222⟩)
                    rw [eJ] at kJ
                    exact kJ
                  · refine GoW.on (fun t k => XS.icmpYes Y211.here hx rfl (pc0 := 363) (pc' := 370) rfl (hb hby at_363) rfl (feq hc363_222).2 (by decide) (by decide) k) ?_
                    show GoW p.tables e below s _ _ _ _ _ (T211.setTop (mkF m 370 #[.val (.int p1), .val (.int p2), .val (.int p3), .val (.int p4), .val (.int bT), .val (.int bC), .val (.int (Int32.ofNat lT)), .val (.int (Int32.ofNat lC)), .val (.int nT), .val (.int nC), .val (.int (Int32.ofNat lR)), .val (.int cp), .val (.int r11), .val (.int r13), .val (.int r15), .val (.int r17), .val (.int r19), .val (.int r21), .val (.int (Int32.ofNat lC)), .val (.int r17), .val (.int r19), .val (.int r21), .val .null, .val (.ref xs206), .val (.ref xs211), .val (.int (0 : Int32)), .unset] []))
                    refine GoW.on (fun t k => XS.iconst Y211.here hx rfl (hb hby at_370) k) ?_
                    show GoW p.tables e below s _ _ _ _ _ (T211.setTop (mkF m 371 #[.val (.int p1), .val (.int p2), .val (.int p3), .val (.int p4), .val (.int bT), .val (.int bC), .val (.int (Int32.ofNat lT)), .val (.int (Int32.ofNat lC)), .val (.int nT), .val (.int nC), .val (.int (Int32.ofNat lR)), .val (.int cp), .val (.int r11), .val (.int r13), .val (.int r15), .val (.int r17), .val (.int r19), .val (.int r21), .val (.int (Int32.ofNat lC)), .val (.int r17), .val (.int r19), .val (.int r21), .val .null, .val (.ref xs206), .val (.ref xs211), .val (.int (0 : Int32)), .unset] [(.int (0 : Int32))]))
                    have eJ : own_b ((([r17, r19, r21] : List Int32).take lC) = (([r17, r19, r21] : List Int32).take lC)) = 0 := own_bf (fun q => ((own_tke hlC hlC).mp q).2.2.2.elim (fun z => hc356_221 z) (fun z => hc363_222 z))
                    rw [eJ] at kJ
                    exact kJ
              · refine GoW.on (fun t k => XS.icmpNo Y211.here hx rfl (hb hby at_343) rfl (flt hc343_220).1 k) ?_
                show GoW p.tables e below s _ _ _ _ _ (T211.setTop (mkF m 346 #[.val (.int p1), .val (.int p2), .val (.int p3), .val (.int p4), .val (.int bT), .val (.int bC), .val (.int (Int32.ofNat lT)), .val (.int (Int32.ofNat lC)), .val (.int nT), .val (.int nC), .val (.int (Int32.ofNat lR)), .val (.int cp), .val (.int r11), .val (.int r13), .val (.int r15), .val (.int r17), .val (.int r19), .val (.int r21), .val (.int (Int32.ofNat lC)), .val (.int r17), .val (.int r19), .val (.int r21), .val .null, .val (.ref xs206), .val (.ref xs211), .val (.int (0 : Int32)), .unset] []))
                refine GoW.on (fun t k => XS.iload Y211.here hx rfl (hb hby at_346) rfl (XS.iload Y211.here hx rfl (hb hby at_348) rfl k)) ?_
                show GoW p.tables e below s _ _ _ _ _ (T211.setTop (mkF m 350 #[.val (.int p1), .val (.int p2), .val (.int p3), .val (.int p4), .val (.int bT), .val (.int bC), .val (.int (Int32.ofNat lT)), .val (.int (Int32.ofNat lC)), .val (.int nT), .val (.int nC), .val (.int (Int32.ofNat lR)), .val (.int cp), .val (.int r11), .val (.int r13), .val (.int r15), .val (.int r17), .val (.int r19), .val (.int r21), .val (.int (Int32.ofNat lC)), .val (.int r17), .val (.int r19), .val (.int r21), .val .null, .val (.ref xs206), .val (.ref xs211), .val (.int (0 : Int32)), .unset] [(.int r19), (.int r19)]))
                by_cases hc350_223 : r19 = r19
                · refine GoW.on (fun t k => XS.icmpNo Y211.here hx rfl (hb hby at_350) rfl (teq hc350_223).2 k) ?_
                  show GoW p.tables e below s _ _ _ _ _ (T211.setTop (mkF m 353 #[.val (.int p1), .val (.int p2), .val (.int p3), .val (.int p4), .val (.int bT), .val (.int bC), .val (.int (Int32.ofNat lT)), .val (.int (Int32.ofNat lC)), .val (.int nT), .val (.int nC), .val (.int (Int32.ofNat lR)), .val (.int cp), .val (.int r11), .val (.int r13), .val (.int r15), .val (.int r17), .val (.int r19), .val (.int r21), .val (.int (Int32.ofNat lC)), .val (.int r17), .val (.int r19), .val (.int r21), .val .null, .val (.ref xs206), .val (.ref xs211), .val (.int (0 : Int32)), .unset] []))
                  refine GoW.on (fun t k => XS.iload Y211.here hx rfl (hb hby at_353) rfl (XS.iconst Y211.here hx rfl (hb hby at_355) k)) ?_
                  show GoW p.tables e below s _ _ _ _ _ (T211.setTop (mkF m 356 #[.val (.int p1), .val (.int p2), .val (.int p3), .val (.int p4), .val (.int bT), .val (.int bC), .val (.int (Int32.ofNat lT)), .val (.int (Int32.ofNat lC)), .val (.int nT), .val (.int nC), .val (.int (Int32.ofNat lR)), .val (.int cp), .val (.int r11), .val (.int r13), .val (.int r15), .val (.int r17), .val (.int r19), .val (.int r21), .val (.int (Int32.ofNat lC)), .val (.int r17), .val (.int r19), .val (.int r21), .val .null, .val (.ref xs206), .val (.ref xs211), .val (.int (0 : Int32)), .unset] [(.int (3 : Int32)), (.int (Int32.ofNat lC))]))
                  by_cases hc356_224 : (Int32.ofNat lC) < (3 : Int32)
                  · refine GoW.on (fun t k => XS.icmpYes Y211.here hx rfl (pc0 := 356) (pc' := 366) rfl (hb hby at_356) rfl (tlt hc356_224).1 (by decide) (by decide) k) ?_
                    show GoW p.tables e below s _ _ _ _ _ (T211.setTop (mkF m 366 #[.val (.int p1), .val (.int p2), .val (.int p3), .val (.int p4), .val (.int bT), .val (.int bC), .val (.int (Int32.ofNat lT)), .val (.int (Int32.ofNat lC)), .val (.int nT), .val (.int nC), .val (.int (Int32.ofNat lR)), .val (.int cp), .val (.int r11), .val (.int r13), .val (.int r15), .val (.int r17), .val (.int r19), .val (.int r21), .val (.int (Int32.ofNat lC)), .val (.int r17), .val (.int r19), .val (.int r21), .val .null, .val (.ref xs206), .val (.ref xs211), .val (.int (0 : Int32)), .unset] []))
                    refine GoW.on (fun t k => XS.iconst Y211.here hx rfl (hb hby at_366) (XS.goto Y211.here hx rfl (pc0 := 367) (pc' := 371) rfl (hb hby at_367) (by decide) (by decide) k)) ?_
                    show GoW p.tables e below s _ _ _ _ _ (T211.setTop (mkF m 371 #[.val (.int p1), .val (.int p2), .val (.int p3), .val (.int p4), .val (.int bT), .val (.int bC), .val (.int (Int32.ofNat lT)), .val (.int (Int32.ofNat lC)), .val (.int nT), .val (.int nC), .val (.int (Int32.ofNat lR)), .val (.int cp), .val (.int r11), .val (.int r13), .val (.int r15), .val (.int r17), .val (.int r19), .val (.int r21), .val (.int (Int32.ofNat lC)), .val (.int r17), .val (.int r19), .val (.int r21), .val .null, .val (.ref xs206), .val (.ref xs211), .val (.int (0 : Int32)), .unset] [(.int (1 : Int32))]))
                    have eJ : own_b ((([r17, r19, r21] : List Int32).take lC) = (([r17, r19, r21] : List Int32).take lC)) = 1 := own_bt ((own_tke hlC hlC).mpr ⟨hc324_218, Or.inl hc330_219, Or.inr hc350_223, Or.inl hc356_224⟩)
                    rw [eJ] at kJ
                    exact kJ
                  · refine GoW.on (fun t k => XS.icmpNo Y211.here hx rfl (hb hby at_356) rfl (flt hc356_224).1 k) ?_
                    show GoW p.tables e below s _ _ _ _ _ (T211.setTop (mkF m 359 #[.val (.int p1), .val (.int p2), .val (.int p3), .val (.int p4), .val (.int bT), .val (.int bC), .val (.int (Int32.ofNat lT)), .val (.int (Int32.ofNat lC)), .val (.int nT), .val (.int nC), .val (.int (Int32.ofNat lR)), .val (.int cp), .val (.int r11), .val (.int r13), .val (.int r15), .val (.int r17), .val (.int r19), .val (.int r21), .val (.int (Int32.ofNat lC)), .val (.int r17), .val (.int r19), .val (.int r21), .val .null, .val (.ref xs206), .val (.ref xs211), .val (.int (0 : Int32)), .unset] []))
                    refine GoW.on (fun t k => XS.iload Y211.here hx rfl (hb hby at_359) rfl (XS.iload Y211.here hx rfl (hb hby at_361) rfl k)) ?_
                    show GoW p.tables e below s _ _ _ _ _ (T211.setTop (mkF m 363 #[.val (.int p1), .val (.int p2), .val (.int p3), .val (.int p4), .val (.int bT), .val (.int bC), .val (.int (Int32.ofNat lT)), .val (.int (Int32.ofNat lC)), .val (.int nT), .val (.int nC), .val (.int (Int32.ofNat lR)), .val (.int cp), .val (.int r11), .val (.int r13), .val (.int r15), .val (.int r17), .val (.int r19), .val (.int r21), .val (.int (Int32.ofNat lC)), .val (.int r17), .val (.int r19), .val (.int r21), .val .null, .val (.ref xs206), .val (.ref xs211), .val (.int (0 : Int32)), .unset] [(.int r21), (.int r21)]))
                    by_cases hc363_225 : r21 = r21
                    · refine GoW.on (fun t k => XS.icmpNo Y211.here hx rfl (hb hby at_363) rfl (teq hc363_225).2 k) ?_
                      show GoW p.tables e below s _ _ _ _ _ (T211.setTop (mkF m 366 #[.val (.int p1), .val (.int p2), .val (.int p3), .val (.int p4), .val (.int bT), .val (.int bC), .val (.int (Int32.ofNat lT)), .val (.int (Int32.ofNat lC)), .val (.int nT), .val (.int nC), .val (.int (Int32.ofNat lR)), .val (.int cp), .val (.int r11), .val (.int r13), .val (.int r15), .val (.int r17), .val (.int r19), .val (.int r21), .val (.int (Int32.ofNat lC)), .val (.int r17), .val (.int r19), .val (.int r21), .val .null, .val (.ref xs206), .val (.ref xs211), .val (.int (0 : Int32)), .unset] []))
                      refine GoW.on (fun t k => XS.iconst Y211.here hx rfl (hb hby at_366) (XS.goto Y211.here hx rfl (pc0 := 367) (pc' := 371) rfl (hb hby at_367) (by decide) (by decide) k)) ?_
                      show GoW p.tables e below s _ _ _ _ _ (T211.setTop (mkF m 371 #[.val (.int p1), .val (.int p2), .val (.int p3), .val (.int p4), .val (.int bT), .val (.int bC), .val (.int (Int32.ofNat lT)), .val (.int (Int32.ofNat lC)), .val (.int nT), .val (.int nC), .val (.int (Int32.ofNat lR)), .val (.int cp), .val (.int r11), .val (.int r13), .val (.int r15), .val (.int r17), .val (.int r19), .val (.int r21), .val (.int (Int32.ofNat lC)), .val (.int r17), .val (.int r19), .val (.int r21), .val .null, .val (.ref xs206), .val (.ref xs211), .val (.int (0 : Int32)), .unset] [(.int (1 : Int32))]))
                      have eJ : own_b ((([r17, r19, r21] : List Int32).take lC) = (([r17, r19, r21] : List Int32).take lC)) = 1 := own_bt ((own_tke hlC hlC).mpr ⟨hc324_218, Or.inl hc330_219, Or.inr hc350_223, Or.inr hc363_225⟩)
                      rw [eJ] at kJ
                      exact kJ
                    · refine GoW.on (fun t k => XS.icmpYes Y211.here hx rfl (pc0 := 363) (pc' := 370) rfl (hb hby at_363) rfl (feq hc363_225).2 (by decide) (by decide) k) ?_
                      show GoW p.tables e below s _ _ _ _ _ (T211.setTop (mkF m 370 #[.val (.int p1), .val (.int p2), .val (.int p3), .val (.int p4), .val (.int bT), .val (.int bC), .val (.int (Int32.ofNat lT)), .val (.int (Int32.ofNat lC)), .val (.int nT), .val (.int nC), .val (.int (Int32.ofNat lR)), .val (.int cp), .val (.int r11), .val (.int r13), .val (.int r15), .val (.int r17), .val (.int r19), .val (.int r21), .val (.int (Int32.ofNat lC)), .val (.int r17), .val (.int r19), .val (.int r21), .val .null, .val (.ref xs206), .val (.ref xs211), .val (.int (0 : Int32)), .unset] []))
                      refine GoW.on (fun t k => XS.iconst Y211.here hx rfl (hb hby at_370) k) ?_
                      show GoW p.tables e below s _ _ _ _ _ (T211.setTop (mkF m 371 #[.val (.int p1), .val (.int p2), .val (.int p3), .val (.int p4), .val (.int bT), .val (.int bC), .val (.int (Int32.ofNat lT)), .val (.int (Int32.ofNat lC)), .val (.int nT), .val (.int nC), .val (.int (Int32.ofNat lR)), .val (.int cp), .val (.int r11), .val (.int r13), .val (.int r15), .val (.int r17), .val (.int r19), .val (.int r21), .val (.int (Int32.ofNat lC)), .val (.int r17), .val (.int r19), .val (.int r21), .val .null, .val (.ref xs206), .val (.ref xs211), .val (.int (0 : Int32)), .unset] [(.int (0 : Int32))]))
                      have eJ : own_b ((([r17, r19, r21] : List Int32).take lC) = (([r17, r19, r21] : List Int32).take lC)) = 0 := own_bf (fun q => ((own_tke hlC hlC).mp q).2.2.2.elim (fun z => hc356_224 z) (fun z => hc363_225 z))
                      rw [eJ] at kJ
                      exact kJ
                · refine GoW.on (fun t k => XS.icmpYes Y211.here hx rfl (pc0 := 350) (pc' := 370) rfl (hb hby at_350) rfl (feq hc350_223).2 (by decide) (by decide) k) ?_
                  show GoW p.tables e below s _ _ _ _ _ (T211.setTop (mkF m 370 #[.val (.int p1), .val (.int p2), .val (.int p3), .val (.int p4), .val (.int bT), .val (.int bC), .val (.int (Int32.ofNat lT)), .val (.int (Int32.ofNat lC)), .val (.int nT), .val (.int nC), .val (.int (Int32.ofNat lR)), .val (.int cp), .val (.int r11), .val (.int r13), .val (.int r15), .val (.int r17), .val (.int r19), .val (.int r21), .val (.int (Int32.ofNat lC)), .val (.int r17), .val (.int r19), .val (.int r21), .val .null, .val (.ref xs206), .val (.ref xs211), .val (.int (0 : Int32)), .unset] []))
                  refine GoW.on (fun t k => XS.iconst Y211.here hx rfl (hb hby at_370) k) ?_
                  show GoW p.tables e below s _ _ _ _ _ (T211.setTop (mkF m 371 #[.val (.int p1), .val (.int p2), .val (.int p3), .val (.int p4), .val (.int bT), .val (.int bC), .val (.int (Int32.ofNat lT)), .val (.int (Int32.ofNat lC)), .val (.int nT), .val (.int nC), .val (.int (Int32.ofNat lR)), .val (.int cp), .val (.int r11), .val (.int r13), .val (.int r15), .val (.int r17), .val (.int r19), .val (.int r21), .val (.int (Int32.ofNat lC)), .val (.int r17), .val (.int r19), .val (.int r21), .val .null, .val (.ref xs206), .val (.ref xs211), .val (.int (0 : Int32)), .unset] [(.int (0 : Int32))]))
                  have eJ : own_b ((([r17, r19, r21] : List Int32).take lC) = (([r17, r19, r21] : List Int32).take lC)) = 0 := own_bf (fun q => ((own_tke hlC hlC).mp q).2.2.1.elim (fun z => hc343_220 z) (fun z => hc350_223 z))
                  rw [eJ] at kJ
                  exact kJ
            · refine GoW.on (fun t k => XS.icmpNo Y211.here hx rfl (hb hby at_330) rfl (flt hc330_219).1 k) ?_
              show GoW p.tables e below s _ _ _ _ _ (T211.setTop (mkF m 333 #[.val (.int p1), .val (.int p2), .val (.int p3), .val (.int p4), .val (.int bT), .val (.int bC), .val (.int (Int32.ofNat lT)), .val (.int (Int32.ofNat lC)), .val (.int nT), .val (.int nC), .val (.int (Int32.ofNat lR)), .val (.int cp), .val (.int r11), .val (.int r13), .val (.int r15), .val (.int r17), .val (.int r19), .val (.int r21), .val (.int (Int32.ofNat lC)), .val (.int r17), .val (.int r19), .val (.int r21), .val .null, .val (.ref xs206), .val (.ref xs211), .val (.int (0 : Int32)), .unset] []))
              refine GoW.on (fun t k => XS.iload Y211.here hx rfl (hb hby at_333) rfl (XS.iload Y211.here hx rfl (hb hby at_335) rfl k)) ?_
              show GoW p.tables e below s _ _ _ _ _ (T211.setTop (mkF m 337 #[.val (.int p1), .val (.int p2), .val (.int p3), .val (.int p4), .val (.int bT), .val (.int bC), .val (.int (Int32.ofNat lT)), .val (.int (Int32.ofNat lC)), .val (.int nT), .val (.int nC), .val (.int (Int32.ofNat lR)), .val (.int cp), .val (.int r11), .val (.int r13), .val (.int r15), .val (.int r17), .val (.int r19), .val (.int r21), .val (.int (Int32.ofNat lC)), .val (.int r17), .val (.int r19), .val (.int r21), .val .null, .val (.ref xs206), .val (.ref xs211), .val (.int (0 : Int32)), .unset] [(.int r17), (.int r17)]))
              by_cases hc337_226 : r17 = r17
              · refine GoW.on (fun t k => XS.icmpNo Y211.here hx rfl (hb hby at_337) rfl (teq hc337_226).2 k) ?_
                show GoW p.tables e below s _ _ _ _ _ (T211.setTop (mkF m 340 #[.val (.int p1), .val (.int p2), .val (.int p3), .val (.int p4), .val (.int bT), .val (.int bC), .val (.int (Int32.ofNat lT)), .val (.int (Int32.ofNat lC)), .val (.int nT), .val (.int nC), .val (.int (Int32.ofNat lR)), .val (.int cp), .val (.int r11), .val (.int r13), .val (.int r15), .val (.int r17), .val (.int r19), .val (.int r21), .val (.int (Int32.ofNat lC)), .val (.int r17), .val (.int r19), .val (.int r21), .val .null, .val (.ref xs206), .val (.ref xs211), .val (.int (0 : Int32)), .unset] []))
                refine GoW.on (fun t k => XS.iload Y211.here hx rfl (hb hby at_340) rfl (XS.iconst Y211.here hx rfl (hb hby at_342) k)) ?_
                show GoW p.tables e below s _ _ _ _ _ (T211.setTop (mkF m 343 #[.val (.int p1), .val (.int p2), .val (.int p3), .val (.int p4), .val (.int bT), .val (.int bC), .val (.int (Int32.ofNat lT)), .val (.int (Int32.ofNat lC)), .val (.int nT), .val (.int nC), .val (.int (Int32.ofNat lR)), .val (.int cp), .val (.int r11), .val (.int r13), .val (.int r15), .val (.int r17), .val (.int r19), .val (.int r21), .val (.int (Int32.ofNat lC)), .val (.int r17), .val (.int r19), .val (.int r21), .val .null, .val (.ref xs206), .val (.ref xs211), .val (.int (0 : Int32)), .unset] [(.int (2 : Int32)), (.int (Int32.ofNat lC))]))
                by_cases hc343_227 : (Int32.ofNat lC) < (2 : Int32)
                · refine GoW.on (fun t k => XS.icmpYes Y211.here hx rfl (pc0 := 343) (pc' := 353) rfl (hb hby at_343) rfl (tlt hc343_227).1 (by decide) (by decide) k) ?_
                  show GoW p.tables e below s _ _ _ _ _ (T211.setTop (mkF m 353 #[.val (.int p1), .val (.int p2), .val (.int p3), .val (.int p4), .val (.int bT), .val (.int bC), .val (.int (Int32.ofNat lT)), .val (.int (Int32.ofNat lC)), .val (.int nT), .val (.int nC), .val (.int (Int32.ofNat lR)), .val (.int cp), .val (.int r11), .val (.int r13), .val (.int r15), .val (.int r17), .val (.int r19), .val (.int r21), .val (.int (Int32.ofNat lC)), .val (.int r17), .val (.int r19), .val (.int r21), .val .null, .val (.ref xs206), .val (.ref xs211), .val (.int (0 : Int32)), .unset] []))
                  refine GoW.on (fun t k => XS.iload Y211.here hx rfl (hb hby at_353) rfl (XS.iconst Y211.here hx rfl (hb hby at_355) k)) ?_
                  show GoW p.tables e below s _ _ _ _ _ (T211.setTop (mkF m 356 #[.val (.int p1), .val (.int p2), .val (.int p3), .val (.int p4), .val (.int bT), .val (.int bC), .val (.int (Int32.ofNat lT)), .val (.int (Int32.ofNat lC)), .val (.int nT), .val (.int nC), .val (.int (Int32.ofNat lR)), .val (.int cp), .val (.int r11), .val (.int r13), .val (.int r15), .val (.int r17), .val (.int r19), .val (.int r21), .val (.int (Int32.ofNat lC)), .val (.int r17), .val (.int r19), .val (.int r21), .val .null, .val (.ref xs206), .val (.ref xs211), .val (.int (0 : Int32)), .unset] [(.int (3 : Int32)), (.int (Int32.ofNat lC))]))
                  by_cases hc356_228 : (Int32.ofNat lC) < (3 : Int32)
                  · refine GoW.on (fun t k => XS.icmpYes Y211.here hx rfl (pc0 := 356) (pc' := 366) rfl (hb hby at_356) rfl (tlt hc356_228).1 (by decide) (by decide) k) ?_
                    show GoW p.tables e below s _ _ _ _ _ (T211.setTop (mkF m 366 #[.val (.int p1), .val (.int p2), .val (.int p3), .val (.int p4), .val (.int bT), .val (.int bC), .val (.int (Int32.ofNat lT)), .val (.int (Int32.ofNat lC)), .val (.int nT), .val (.int nC), .val (.int (Int32.ofNat lR)), .val (.int cp), .val (.int r11), .val (.int r13), .val (.int r15), .val (.int r17), .val (.int r19), .val (.int r21), .val (.int (Int32.ofNat lC)), .val (.int r17), .val (.int r19), .val (.int r21), .val .null, .val (.ref xs206), .val (.ref xs211), .val (.int (0 : Int32)), .unset] []))
                    refine GoW.on (fun t k => XS.iconst Y211.here hx rfl (hb hby at_366) (XS.goto Y211.here hx rfl (pc0 := 367) (pc' := 371) rfl (hb hby at_367) (by decide) (by decide) k)) ?_
                    show GoW p.tables e below s _ _ _ _ _ (T211.setTop (mkF m 371 #[.val (.int p1), .val (.int p2), .val (.int p3), .val (.int p4), .val (.int bT), .val (.int bC), .val (.int (Int32.ofNat lT)), .val (.int (Int32.ofNat lC)), .val (.int nT), .val (.int nC), .val (.int (Int32.ofNat lR)), .val (.int cp), .val (.int r11), .val (.int r13), .val (.int r15), .val (.int r17), .val (.int r19), .val (.int r21), .val (.int (Int32.ofNat lC)), .val (.int r17), .val (.int r19), .val (.int r21), .val .null, .val (.ref xs206), .val (.ref xs211), .val (.int (0 : Int32)), .unset] [(.int (1 : Int32))]))
                    have eJ : own_b ((([r17, r19, r21] : List Int32).take lC) = (([r17, r19, r21] : List Int32).take lC)) = 1 := own_bt ((own_tke hlC hlC).mpr ⟨hc324_218, Or.inr hc337_226, Or.inl hc343_227, Or.inl hc356_228⟩)
                    rw [eJ] at kJ
                    exact kJ
                  · refine GoW.on (fun t k => XS.icmpNo Y211.here hx rfl (hb hby at_356) rfl (flt hc356_228).1 k) ?_
                    show GoW p.tables e below s _ _ _ _ _ (T211.setTop (mkF m 359 #[.val (.int p1), .val (.int p2), .val (.int p3), .val (.int p4), .val (.int bT), .val (.int bC), .val (.int (Int32.ofNat lT)), .val (.int (Int32.ofNat lC)), .val (.int nT), .val (.int nC), .val (.int (Int32.ofNat lR)), .val (.int cp), .val (.int r11), .val (.int r13), .val (.int r15), .val (.int r17), .val (.int r19), .val (.int r21), .val (.int (Int32.ofNat lC)), .val (.int r17), .val (.int r19), .val (.int r21), .val .null, .val (.ref xs206), .val (.ref xs211), .val (.int (0 : Int32)), .unset] []))
                    refine GoW.on (fun t k => XS.iload Y211.here hx rfl (hb hby at_359) rfl (XS.iload Y211.here hx rfl (hb hby at_361) rfl k)) ?_
                    show GoW p.tables e below s _ _ _ _ _ (T211.setTop (mkF m 363 #[.val (.int p1), .val (.int p2), .val (.int p3), .val (.int p4), .val (.int bT), .val (.int bC), .val (.int (Int32.ofNat lT)), .val (.int (Int32.ofNat lC)), .val (.int nT), .val (.int nC), .val (.int (Int32.ofNat lR)), .val (.int cp), .val (.int r11), .val (.int r13), .val (.int r15), .val (.int r17), .val (.int r19), .val (.int r21), .val (.int (Int32.ofNat lC)), .val (.int r17), .val (.int r19), .val (.int r21), .val .null, .val (.ref xs206), .val (.ref xs211), .val (.int (0 : Int32)), .unset] [(.int r21), (.int r21)]))
                    by_cases hc363_229 : r21 = r21
                    · refine GoW.on (fun t k => XS.icmpNo Y211.here hx rfl (hb hby at_363) rfl (teq hc363_229).2 k) ?_
                      show GoW p.tables e below s _ _ _ _ _ (T211.setTop (mkF m 366 #[.val (.int p1), .val (.int p2), .val (.int p3), .val (.int p4), .val (.int bT), .val (.int bC), .val (.int (Int32.ofNat lT)), .val (.int (Int32.ofNat lC)), .val (.int nT), .val (.int nC), .val (.int (Int32.ofNat lR)), .val (.int cp), .val (.int r11), .val (.int r13), .val (.int r15), .val (.int r17), .val (.int r19), .val (.int r21), .val (.int (Int32.ofNat lC)), .val (.int r17), .val (.int r19), .val (.int r21), .val .null, .val (.ref xs206), .val (.ref xs211), .val (.int (0 : Int32)), .unset] []))
                      refine GoW.on (fun t k => XS.iconst Y211.here hx rfl (hb hby at_366) (XS.goto Y211.here hx rfl (pc0 := 367) (pc' := 371) rfl (hb hby at_367) (by decide) (by decide) k)) ?_
                      show GoW p.tables e below s _ _ _ _ _ (T211.setTop (mkF m 371 #[.val (.int p1), .val (.int p2), .val (.int p3), .val (.int p4), .val (.int bT), .val (.int bC), .val (.int (Int32.ofNat lT)), .val (.int (Int32.ofNat lC)), .val (.int nT), .val (.int nC), .val (.int (Int32.ofNat lR)), .val (.int cp), .val (.int r11), .val (.int r13), .val (.int r15), .val (.int r17), .val (.int r19), .val (.int r21), .val (.int (Int32.ofNat lC)), .val (.int r17), .val (.int r19), .val (.int r21), .val .null, .val (.ref xs206), .val (.ref xs211), .val (.int (0 : Int32)), .unset] [(.int (1 : Int32))]))
                      have eJ : own_b ((([r17, r19, r21] : List Int32).take lC) = (([r17, r19, r21] : List Int32).take lC)) = 1 := own_bt ((own_tke hlC hlC).mpr ⟨hc324_218, Or.inr hc337_226, Or.inl hc343_227, Or.inr hc363_229⟩)
                      rw [eJ] at kJ
                      exact kJ
                    · refine GoW.on (fun t k => XS.icmpYes Y211.here hx rfl (pc0 := 363) (pc' := 370) rfl (hb hby at_363) rfl (feq hc363_229).2 (by decide) (by decide) k) ?_
                      show GoW p.tables e below s _ _ _ _ _ (T211.setTop (mkF m 370 #[.val (.int p1), .val (.int p2), .val (.int p3), .val (.int p4), .val (.int bT), .val (.int bC), .val (.int (Int32.ofNat lT)), .val (.int (Int32.ofNat lC)), .val (.int nT), .val (.int nC), .val (.int (Int32.ofNat lR)), .val (.int cp), .val (.int r11), .val (.int r13), .val (.int r15), .val (.int r17), .val (.int r19), .val (.int r21), .val (.int (Int32.ofNat lC)), .val (.int r17), .val (.int r19), .val (.int r21), .val .null, .val (.ref xs206), .val (.ref xs211), .val (.int (0 : Int32)), .unset] []))
                      refine GoW.on (fun t k => XS.iconst Y211.here hx rfl (hb hby at_370) k) ?_
                      show GoW p.tables e below s _ _ _ _ _ (T211.setTop (mkF m 371 #[.val (.int p1), .val (.int p2), .val (.int p3), .val (.int p4), .val (.int bT), .val (.int bC), .val (.int (Int32.ofNat lT)), .val (.int (Int32.ofNat lC)), .val (.int nT), .val (.int nC), .val (.int (Int32.ofNat lR)), .val (.int cp), .val (.int r11), .val (.int r13), .val (.int r15), .val (.int r17), .val (.int r19), .val (.int r21), .val (.int (Int32.ofNat lC)), .val (.int r17), .val (.int r19), .val (.int r21), .val .null, .val (.ref xs206), .val (.ref xs211), .val (.int (0 : Int32)), .unset] [(.int (0 : Int32))]))
                      have eJ : own_b ((([r17, r19, r21] : List Int32).take lC) = (([r17, r19, r21] : List Int32).take lC)) = 0 := own_bf (fun q => ((own_tke hlC hlC).mp q).2.2.2.elim (fun z => hc356_228 z) (fun z => hc363_229 z))
                      rw [eJ] at kJ
                      exact kJ
                · refine GoW.on (fun t k => XS.icmpNo Y211.here hx rfl (hb hby at_343) rfl (flt hc343_227).1 k) ?_
                  show GoW p.tables e below s _ _ _ _ _ (T211.setTop (mkF m 346 #[.val (.int p1), .val (.int p2), .val (.int p3), .val (.int p4), .val (.int bT), .val (.int bC), .val (.int (Int32.ofNat lT)), .val (.int (Int32.ofNat lC)), .val (.int nT), .val (.int nC), .val (.int (Int32.ofNat lR)), .val (.int cp), .val (.int r11), .val (.int r13), .val (.int r15), .val (.int r17), .val (.int r19), .val (.int r21), .val (.int (Int32.ofNat lC)), .val (.int r17), .val (.int r19), .val (.int r21), .val .null, .val (.ref xs206), .val (.ref xs211), .val (.int (0 : Int32)), .unset] []))
                  refine GoW.on (fun t k => XS.iload Y211.here hx rfl (hb hby at_346) rfl (XS.iload Y211.here hx rfl (hb hby at_348) rfl k)) ?_
                  show GoW p.tables e below s _ _ _ _ _ (T211.setTop (mkF m 350 #[.val (.int p1), .val (.int p2), .val (.int p3), .val (.int p4), .val (.int bT), .val (.int bC), .val (.int (Int32.ofNat lT)), .val (.int (Int32.ofNat lC)), .val (.int nT), .val (.int nC), .val (.int (Int32.ofNat lR)), .val (.int cp), .val (.int r11), .val (.int r13), .val (.int r15), .val (.int r17), .val (.int r19), .val (.int r21), .val (.int (Int32.ofNat lC)), .val (.int r17), .val (.int r19), .val (.int r21), .val .null, .val (.ref xs206), .val (.ref xs211), .val (.int (0 : Int32)), .unset] [(.int r19), (.int r19)]))
                  by_cases hc350_230 : r19 = r19
                  · refine GoW.on (fun t k => XS.icmpNo Y211.here hx rfl (hb hby at_350) rfl (teq hc350_230).2 k) ?_
                    show GoW p.tables e below s _ _ _ _ _ (T211.setTop (mkF m 353 #[.val (.int p1), .val (.int p2), .val (.int p3), .val (.int p4), .val (.int bT), .val (.int bC), .val (.int (Int32.ofNat lT)), .val (.int (Int32.ofNat lC)), .val (.int nT), .val (.int nC), .val (.int (Int32.ofNat lR)), .val (.int cp), .val (.int r11), .val (.int r13), .val (.int r15), .val (.int r17), .val (.int r19), .val (.int r21), .val (.int (Int32.ofNat lC)), .val (.int r17), .val (.int r19), .val (.int r21), .val .null, .val (.ref xs206), .val (.ref xs211), .val (.int (0 : Int32)), .unset] []))
                    refine GoW.on (fun t k => XS.iload Y211.here hx rfl (hb hby at_353) rfl (XS.iconst Y211.here hx rfl (hb hby at_355) k)) ?_
                    show GoW p.tables e below s _ _ _ _ _ (T211.setTop (mkF m 356 #[.val (.int p1), .val (.int p2), .val (.int p3), .val (.int p4), .val (.int bT), .val (.int bC), .val (.int (Int32.ofNat lT)), .val (.int (Int32.ofNat lC)), .val (.int nT), .val (.int nC), .val (.int (Int32.ofNat lR)), .val (.int cp), .val (.int r11), .val (.int r13), .val (.int r15), .val (.int r17), .val (.int r19), .val (.int r21), .val (.int (Int32.ofNat lC)), .val (.int r17), .val (.int r19), .val (.int r21), .val .null, .val (.ref xs206), .val (.ref xs211), .val (.int (0 : Int32)), .unset] [(.int (3 : Int32)), (.int (Int32.ofNat lC))]))
                    by_cases hc356_231 : (Int32.ofNat lC) < (3 : Int32)
                    · refine GoW.on (fun t k => XS.icmpYes Y211.here hx rfl (pc0 := 356) (pc' := 366) rfl (hb hby at_356) rfl (tlt hc356_231).1 (by decide) (by decide) k) ?_
                      show GoW p.tables e below s _ _ _ _ _ (T211.setTop (mkF m 366 #[.val (.int p1), .val (.int p2), .val (.int p3), .val (.int p4), .val (.int bT), .val (.int bC), .val (.int (Int32.ofNat lT)), .val (.int (Int32.ofNat lC)), .val (.int nT), .val (.int nC), .val (.int (Int32.ofNat lR)), .val (.int cp), .val (.int r11), .val (.int r13), .val (.int r15), .val (.int r17), .val (.int r19), .val (.int r21), .val (.int (Int32.ofNat lC)), .val (.int r17), .val (.int r19), .val (.int r21), .val .null, .val (.ref xs206), .val (.ref xs211), .val (.int (0 : Int32)), .unset] []))
                      refine GoW.on (fun t k => XS.iconst Y211.here hx rfl (hb hby at_366) (XS.goto Y211.here hx rfl (pc0 := 367) (pc' := 371) rfl (hb hby at_367) (by decide) (by decide) k)) ?_
                      show GoW p.tables e below s _ _ _ _ _ (T211.setTop (mkF m 371 #[.val (.int p1), .val (.int p2), .val (.int p3), .val (.int p4), .val (.int bT), .val (.int bC), .val (.int (Int32.ofNat lT)), .val (.int (Int32.ofNat lC)), .val (.int nT), .val (.int nC), .val (.int (Int32.ofNat lR)), .val (.int cp), .val (.int r11), .val (.int r13), .val (.int r15), .val (.int r17), .val (.int r19), .val (.int r21), .val (.int (Int32.ofNat lC)), .val (.int r17), .val (.int r19), .val (.int r21), .val .null, .val (.ref xs206), .val (.ref xs211), .val (.int (0 : Int32)), .unset] [(.int (1 : Int32))]))
                      have eJ : own_b ((([r17, r19, r21] : List Int32).take lC) = (([r17, r19, r21] : List Int32).take lC)) = 1 := own_bt ((own_tke hlC hlC).mpr ⟨hc324_218, Or.inr hc337_226, Or.inr hc350_230, Or.inl hc356_231⟩)
                      rw [eJ] at kJ
                      exact kJ
                    · refine GoW.on (fun t k => XS.icmpNo Y211.here hx rfl (hb hby at_356) rfl (flt hc356_231).1 k) ?_
                      show GoW p.tables e below s _ _ _ _ _ (T211.setTop (mkF m 359 #[.val (.int p1), .val (.int p2), .val (.int p3), .val (.int p4), .val (.int bT), .val (.int bC), .val (.int (Int32.ofNat lT)), .val (.int (Int32.ofNat lC)), .val (.int nT), .val (.int nC), .val (.int (Int32.ofNat lR)), .val (.int cp), .val (.int r11), .val (.int r13), .val (.int r15), .val (.int r17), .val (.int r19), .val (.int r21), .val (.int (Int32.ofNat lC)), .val (.int r17), .val (.int r19), .val (.int r21), .val .null, .val (.ref xs206), .val (.ref xs211), .val (.int (0 : Int32)), .unset] []))
                      refine GoW.on (fun t k => XS.iload Y211.here hx rfl (hb hby at_359) rfl (XS.iload Y211.here hx rfl (hb hby at_361) rfl k)) ?_
                      show GoW p.tables e below s _ _ _ _ _ (T211.setTop (mkF m 363 #[.val (.int p1), .val (.int p2), .val (.int p3), .val (.int p4), .val (.int bT), .val (.int bC), .val (.int (Int32.ofNat lT)), .val (.int (Int32.ofNat lC)), .val (.int nT), .val (.int nC), .val (.int (Int32.ofNat lR)), .val (.int cp), .val (.int r11), .val (.int r13), .val (.int r15), .val (.int r17), .val (.int r19), .val (.int r21), .val (.int (Int32.ofNat lC)), .val (.int r17), .val (.int r19), .val (.int r21), .val .null, .val (.ref xs206), .val (.ref xs211), .val (.int (0 : Int32)), .unset] [(.int r21), (.int r21)]))
                      by_cases hc363_232 : r21 = r21
                      · refine GoW.on (fun t k => XS.icmpNo Y211.here hx rfl (hb hby at_363) rfl (teq hc363_232).2 k) ?_
                        show GoW p.tables e below s _ _ _ _ _ (T211.setTop (mkF m 366 #[.val (.int p1), .val (.int p2), .val (.int p3), .val (.int p4), .val (.int bT), .val (.int bC), .val (.int (Int32.ofNat lT)), .val (.int (Int32.ofNat lC)), .val (.int nT), .val (.int nC), .val (.int (Int32.ofNat lR)), .val (.int cp), .val (.int r11), .val (.int r13), .val (.int r15), .val (.int r17), .val (.int r19), .val (.int r21), .val (.int (Int32.ofNat lC)), .val (.int r17), .val (.int r19), .val (.int r21), .val .null, .val (.ref xs206), .val (.ref xs211), .val (.int (0 : Int32)), .unset] []))
                        refine GoW.on (fun t k => XS.iconst Y211.here hx rfl (hb hby at_366) (XS.goto Y211.here hx rfl (pc0 := 367) (pc' := 371) rfl (hb hby at_367) (by decide) (by decide) k)) ?_
                        show GoW p.tables e below s _ _ _ _ _ (T211.setTop (mkF m 371 #[.val (.int p1), .val (.int p2), .val (.int p3), .val (.int p4), .val (.int bT), .val (.int bC), .val (.int (Int32.ofNat lT)), .val (.int (Int32.ofNat lC)), .val (.int nT), .val (.int nC), .val (.int (Int32.ofNat lR)), .val (.int cp), .val (.int r11), .val (.int r13), .val (.int r15), .val (.int r17), .val (.int r19), .val (.int r21), .val (.int (Int32.ofNat lC)), .val (.int r17), .val (.int r19), .val (.int r21), .val .null, .val (.ref xs206), .val (.ref xs211), .val (.int (0 : Int32)), .unset] [(.int (1 : Int32))]))
                        have eJ : own_b ((([r17, r19, r21] : List Int32).take lC) = (([r17, r19, r21] : List Int32).take lC)) = 1 := own_bt ((own_tke hlC hlC).mpr ⟨hc324_218, Or.inr hc337_226, Or.inr hc350_230, Or.inr hc363_232⟩)
                        rw [eJ] at kJ
                        exact kJ
                      · refine GoW.on (fun t k => XS.icmpYes Y211.here hx rfl (pc0 := 363) (pc' := 370) rfl (hb hby at_363) rfl (feq hc363_232).2 (by decide) (by decide) k) ?_
                        show GoW p.tables e below s _ _ _ _ _ (T211.setTop (mkF m 370 #[.val (.int p1), .val (.int p2), .val (.int p3), .val (.int p4), .val (.int bT), .val (.int bC), .val (.int (Int32.ofNat lT)), .val (.int (Int32.ofNat lC)), .val (.int nT), .val (.int nC), .val (.int (Int32.ofNat lR)), .val (.int cp), .val (.int r11), .val (.int r13), .val (.int r15), .val (.int r17), .val (.int r19), .val (.int r21), .val (.int (Int32.ofNat lC)), .val (.int r17), .val (.int r19), .val (.int r21), .val .null, .val (.ref xs206), .val (.ref xs211), .val (.int (0 : Int32)), .unset] []))
                        refine GoW.on (fun t k => XS.iconst Y211.here hx rfl (hb hby at_370) k) ?_
                        show GoW p.tables e below s _ _ _ _ _ (T211.setTop (mkF m 371 #[.val (.int p1), .val (.int p2), .val (.int p3), .val (.int p4), .val (.int bT), .val (.int bC), .val (.int (Int32.ofNat lT)), .val (.int (Int32.ofNat lC)), .val (.int nT), .val (.int nC), .val (.int (Int32.ofNat lR)), .val (.int cp), .val (.int r11), .val (.int r13), .val (.int r15), .val (.int r17), .val (.int r19), .val (.int r21), .val (.int (Int32.ofNat lC)), .val (.int r17), .val (.int r19), .val (.int r21), .val .null, .val (.ref xs206), .val (.ref xs211), .val (.int (0 : Int32)), .unset] [(.int (0 : Int32))]))
                        have eJ : own_b ((([r17, r19, r21] : List Int32).take lC) = (([r17, r19, r21] : List Int32).take lC)) = 0 := own_bf (fun q => ((own_tke hlC hlC).mp q).2.2.2.elim (fun z => hc356_231 z) (fun z => hc363_232 z))
                        rw [eJ] at kJ
                        exact kJ
                  · refine GoW.on (fun t k => XS.icmpYes Y211.here hx rfl (pc0 := 350) (pc' := 370) rfl (hb hby at_350) rfl (feq hc350_230).2 (by decide) (by decide) k) ?_
                    show GoW p.tables e below s _ _ _ _ _ (T211.setTop (mkF m 370 #[.val (.int p1), .val (.int p2), .val (.int p3), .val (.int p4), .val (.int bT), .val (.int bC), .val (.int (Int32.ofNat lT)), .val (.int (Int32.ofNat lC)), .val (.int nT), .val (.int nC), .val (.int (Int32.ofNat lR)), .val (.int cp), .val (.int r11), .val (.int r13), .val (.int r15), .val (.int r17), .val (.int r19), .val (.int r21), .val (.int (Int32.ofNat lC)), .val (.int r17), .val (.int r19), .val (.int r21), .val .null, .val (.ref xs206), .val (.ref xs211), .val (.int (0 : Int32)), .unset] []))
                    refine GoW.on (fun t k => XS.iconst Y211.here hx rfl (hb hby at_370) k) ?_
                    show GoW p.tables e below s _ _ _ _ _ (T211.setTop (mkF m 371 #[.val (.int p1), .val (.int p2), .val (.int p3), .val (.int p4), .val (.int bT), .val (.int bC), .val (.int (Int32.ofNat lT)), .val (.int (Int32.ofNat lC)), .val (.int nT), .val (.int nC), .val (.int (Int32.ofNat lR)), .val (.int cp), .val (.int r11), .val (.int r13), .val (.int r15), .val (.int r17), .val (.int r19), .val (.int r21), .val (.int (Int32.ofNat lC)), .val (.int r17), .val (.int r19), .val (.int r21), .val .null, .val (.ref xs206), .val (.ref xs211), .val (.int (0 : Int32)), .unset] [(.int (0 : Int32))]))
                    have eJ : own_b ((([r17, r19, r21] : List Int32).take lC) = (([r17, r19, r21] : List Int32).take lC)) = 0 := own_bf (fun q => ((own_tke hlC hlC).mp q).2.2.1.elim (fun z => hc343_227 z) (fun z => hc350_230 z))
                    rw [eJ] at kJ
                    exact kJ
              · refine GoW.on (fun t k => XS.icmpYes Y211.here hx rfl (pc0 := 337) (pc' := 370) rfl (hb hby at_337) rfl (feq hc337_226).2 (by decide) (by decide) k) ?_
                show GoW p.tables e below s _ _ _ _ _ (T211.setTop (mkF m 370 #[.val (.int p1), .val (.int p2), .val (.int p3), .val (.int p4), .val (.int bT), .val (.int bC), .val (.int (Int32.ofNat lT)), .val (.int (Int32.ofNat lC)), .val (.int nT), .val (.int nC), .val (.int (Int32.ofNat lR)), .val (.int cp), .val (.int r11), .val (.int r13), .val (.int r15), .val (.int r17), .val (.int r19), .val (.int r21), .val (.int (Int32.ofNat lC)), .val (.int r17), .val (.int r19), .val (.int r21), .val .null, .val (.ref xs206), .val (.ref xs211), .val (.int (0 : Int32)), .unset] []))
                refine GoW.on (fun t k => XS.iconst Y211.here hx rfl (hb hby at_370) k) ?_
                show GoW p.tables e below s _ _ _ _ _ (T211.setTop (mkF m 371 #[.val (.int p1), .val (.int p2), .val (.int p3), .val (.int p4), .val (.int bT), .val (.int bC), .val (.int (Int32.ofNat lT)), .val (.int (Int32.ofNat lC)), .val (.int nT), .val (.int nC), .val (.int (Int32.ofNat lR)), .val (.int cp), .val (.int r11), .val (.int r13), .val (.int r15), .val (.int r17), .val (.int r19), .val (.int r21), .val (.int (Int32.ofNat lC)), .val (.int r17), .val (.int r19), .val (.int r21), .val .null, .val (.ref xs206), .val (.ref xs211), .val (.int (0 : Int32)), .unset] [(.int (0 : Int32))]))
                have eJ : own_b ((([r17, r19, r21] : List Int32).take lC) = (([r17, r19, r21] : List Int32).take lC)) = 0 := own_bf (fun q => ((own_tke hlC hlC).mp q).2.1.elim (fun z => hc330_219 z) (fun z => hc337_226 z))
                rw [eJ] at kJ
                exact kJ
          · refine GoW.on (fun t k => XS.icmpYes Y211.here hx rfl (pc0 := 324) (pc' := 370) rfl (hb hby at_324) rfl (feq hc324_218).2 (by decide) (by decide) k) ?_
            show GoW p.tables e below s _ _ _ _ _ (T211.setTop (mkF m 370 #[.val (.int p1), .val (.int p2), .val (.int p3), .val (.int p4), .val (.int bT), .val (.int bC), .val (.int (Int32.ofNat lT)), .val (.int (Int32.ofNat lC)), .val (.int nT), .val (.int nC), .val (.int (Int32.ofNat lR)), .val (.int cp), .val (.int r11), .val (.int r13), .val (.int r15), .val (.int r17), .val (.int r19), .val (.int r21), .val (.int (Int32.ofNat lC)), .val (.int r17), .val (.int r19), .val (.int r21), .val .null, .val (.ref xs206), .val (.ref xs211), .val (.int (0 : Int32)), .unset] []))
            refine GoW.on (fun t k => XS.iconst Y211.here hx rfl (hb hby at_370) k) ?_
            show GoW p.tables e below s _ _ _ _ _ (T211.setTop (mkF m 371 #[.val (.int p1), .val (.int p2), .val (.int p3), .val (.int p4), .val (.int bT), .val (.int bC), .val (.int (Int32.ofNat lT)), .val (.int (Int32.ofNat lC)), .val (.int nT), .val (.int nC), .val (.int (Int32.ofNat lR)), .val (.int cp), .val (.int r11), .val (.int r13), .val (.int r15), .val (.int r17), .val (.int r19), .val (.int r21), .val (.int (Int32.ofNat lC)), .val (.int r17), .val (.int r19), .val (.int r21), .val .null, .val (.ref xs206), .val (.ref xs211), .val (.int (0 : Int32)), .unset] [(.int (0 : Int32))]))
            have eJ : own_b ((([r17, r19, r21] : List Int32).take lC) = (([r17, r19, r21] : List Int32).take lC)) = 0 := own_bf (fun q => hc324_218 ((own_tke hlC hlC).mp q).1)
            rw [eJ] at kJ
            exact kJ
        refine J217 ?_
        show GoW p.tables e below s _ _ _ _ _ (T211.setTop (mkF m 371 #[.val (.int p1), .val (.int p2), .val (.int p3), .val (.int p4), .val (.int bT), .val (.int bC), .val (.int (Int32.ofNat lT)), .val (.int (Int32.ofNat lC)), .val (.int nT), .val (.int nC), .val (.int (Int32.ofNat lR)), .val (.int cp), .val (.int r11), .val (.int r13), .val (.int r15), .val (.int r17), .val (.int r19), .val (.int r21), .val (.int (Int32.ofNat lC)), .val (.int r17), .val (.int r19), .val (.int r21), .val .null, .val (.ref xs206), .val (.ref xs211), .val (.int (0 : Int32)), .unset] [(.int (own_b ((([r17, r19, r21] : List Int32).take lC) = (([r17, r19, r21] : List Int32).take lC))))]))
        refine GoW.on (fun t k => XS.istore Y211.here hx rfl (hb hby at_371) rfl (l' := #[.val (.int p1), .val (.int p2), .val (.int p3), .val (.int p4), .val (.int bT), .val (.int bC), .val (.int (Int32.ofNat lT)), .val (.int (Int32.ofNat lC)), .val (.int nT), .val (.int nC), .val (.int (Int32.ofNat lR)), .val (.int cp), .val (.int r11), .val (.int r13), .val (.int r15), .val (.int r17), .val (.int r19), .val (.int r21), .val (.int (Int32.ofNat lC)), .val (.int r17), .val (.int r19), .val (.int r21), .val .null, .val (.ref xs206), .val (.ref xs211), .val (.int (0 : Int32)), .val (.int (own_b ((([r17, r19, r21] : List Int32).take lC) = (([r17, r19, r21] : List Int32).take lC))))]) rfl (XS.aload Y211.here hx rfl (hb hby at_373) rfl rfl (XS.aload Y211.here hx rfl (hb hby at_375) rfl rfl (XS.aload Y211.here hx rfl (hb hby at_377) rfl rfl k)))) ?_
        show GoW p.tables e below s _ _ _ _ _ (T211.setTop (mkF m 379 #[.val (.int p1), .val (.int p2), .val (.int p3), .val (.int p4), .val (.int bT), .val (.int bC), .val (.int (Int32.ofNat lT)), .val (.int (Int32.ofNat lC)), .val (.int nT), .val (.int nC), .val (.int (Int32.ofNat lR)), .val (.int cp), .val (.int r11), .val (.int r13), .val (.int r15), .val (.int r17), .val (.int r19), .val (.int r21), .val (.int (Int32.ofNat lC)), .val (.int r17), .val (.int r19), .val (.int r21), .val .null, .val (.ref xs206), .val (.ref xs211), .val (.int (0 : Int32)), .val (.int (own_b ((([r17, r19, r21] : List Int32).take lC) = (([r17, r19, r21] : List Int32).take lC))))] [(.ref xs211), (.ref xs206), .null]))
        obtain ⟨_, _, ⟨T233, L233, k233, n233⟩, -, X233, Sn233, Gr233, ⟨Lc233, hQ233, l233, y233, z233, C233⟩, st233⟩ := callSS Y211 hx (y := (⟨"com/example/rhythmwire/rhythmwire/idc/CommonSegments", "isReport", "(Ljava/lang/String;Ljava/lang/String;Ljava/lang/String;)Z"⟩ : MethodName)) hown211 (mvT hZ211 (hw _ (List.mem_of_getElem? (i := 29) rfl))) (mvT hZ211 (hw _ (List.mem_of_getElem? (i := 30) rfl))) (mvT hZ211 (hw _ (List.mem_of_getElem? (i := 31) rfl))) (mvT hZ211 (hw _ (List.mem_of_getElem? (i := 32) rfl))) (by decide) (backOfSH (W := 0) (rm6nr l Z a0 hw [] xs206 xs211 G1 T211.heap n0 Zp215 Old0_213 O2 P5) hZ211 (hw _ (List.mem_of_getElem? (i := 32) rfl)) (hw _ (List.mem_of_getElem? (i := 31) rfl)) (by decide) (by decide) hEL Ch212.1) (g := (mkF m 379 #[.val (.int p1), .val (.int p2), .val (.int p3), .val (.int p4), .val (.int bT), .val (.int bC), .val (.int (Int32.ofNat lT)), .val (.int (Int32.ofNat lC)), .val (.int nT), .val (.int nC), .val (.int (Int32.ofNat lR)), .val (.int cp), .val (.int r11), .val (.int r13), .val (.int r15), .val (.int r17), .val (.int r19), .val (.int r21), .val (.int (Int32.ofNat lC)), .val (.int r17), .val (.int r19), .val (.int r21), .val .null, .val (.ref xs206), .val (.ref xs211), .val (.int (0 : Int32)), .val (.int (own_b ((([r17, r19, r21] : List Int32).take lC) = (([r17, r19, r21] : List Int32).take lC))))] [(.ref xs211), (.ref xs206), .null])) rfl (by rw [hml]; rfl) (argsL := [.null, (.ref xs206), (.ref xs211)]) (rest := []) (lenOf pd__40_Ljava_47_lang_47_String_59_Ljava_47_lang_47_String_59_Ljava_47_lang_47_String_59__41_Z rfl) rfl (by show 2 * 0 + _ ≤ _; exact Nat.le_of_eq rfl) (hb hby at_379) (fun _ _ => ⟨rfl, rfl, (by decide : ((((((((0 + 0) + 0) + 0) + 0) + 0) + 0) + 6) + 6) + 2 ≤ _), (by decide : ((((((((0 + 0) + 0) + 0) + 0) + 0) + 0) + 12) + 12) + 12 ≤ _)⟩)
        dsimp only [Pt.U, Pt.locs, Pt.cells, Pt.slots] at X233 l233 y233 z233 st233 hQ233 Sn233 Gr233 C233
        rw [l233, y233, z233] at X233
        obtain ⟨Y233, hS233, hZ233, hown233⟩ := rebS hS211 (Nat.le_refl _) X233 Sn233 Gr233 hZ211 hown211
        obtain ⟨rfl, Nq233, Kq233⟩ := hQ233
        have Ch234 := Ch212.trans C233
        have Old0_235 := Old0_213.keep Kq233 all0
        have P206_236 := P206_214.keep0 Kq233
        have P211_237 := P211_0.keep0 Kq233
        have Zp238 := Nat.le_trans Zp215 Kq233.1
        have Np239 := Fr.app Np216 Nq233
        refine GoW.via st233 ?_
        show GoW p.tables e below s _ _ _ _ _ (T233.setTop (mkF m 382 #[.val (.int p1), .val (.int p2), .val (.int p3), .val (.int p4), .val (.int bT), .val (.int bC), .val (.int (Int32.ofNat lT)), .val (.int (Int32.ofNat lC)), .val (.int nT), .val (.int nC), .val (.int (Int32.ofNat lR)), .val (.int cp), .val (.int r11), .val (.int r13), .val (.int r15), .val (.int r17), .val (.int r19), .val (.int r21), .val (.int (Int32.ofNat lC)), .val (.int r17), .val (.int r19), .val (.int r21), .val .null, .val (.ref xs206), .val (.ref xs211), .val (.int (0 : Int32)), .val (.int (own_b ((([r17, r19, r21] : List Int32).take lC) = (([r17, r19, r21] : List Int32).take lC))))] [(.int (0 : Int32))]))
        refine GoW.on (fun t k => XS.iload Y233.here hx rfl (hb hby at_382) rfl k) ?_
        show GoW p.tables e below s _ _ _ _ _ (T233.setTop (mkF m 384 #[.val (.int p1), .val (.int p2), .val (.int p3), .val (.int p4), .val (.int bT), .val (.int bC), .val (.int (Int32.ofNat lT)), .val (.int (Int32.ofNat lC)), .val (.int nT), .val (.int nC), .val (.int (Int32.ofNat lR)), .val (.int cp), .val (.int r11), .val (.int r13), .val (.int r15), .val (.int r17), .val (.int r19), .val (.int r21), .val (.int (Int32.ofNat lC)), .val (.int r17), .val (.int r19), .val (.int r21), .val .null, .val (.ref xs206), .val (.ref xs211), .val (.int (0 : Int32)), .val (.int (own_b ((([r17, r19, r21] : List Int32).take lC) = (([r17, r19, r21] : List Int32).take lC))))] [(.int (0 : Int32)), (.int (0 : Int32))]))
        refine GoW.on (fun t k => XS.ifYes Y233.here hx rfl (pc0 := 384) (pc' := 396) rfl (hb hby at_384) rfl ((if0 _ _).trans (teq (by decide : (0 : Int32) = (0 : Int32))).1) (by decide) (by decide) k) ?_
        show GoW p.tables e below s _ _ _ _ _ (T233.setTop (mkF m 396 #[.val (.int p1), .val (.int p2), .val (.int p3), .val (.int p4), .val (.int bT), .val (.int bC), .val (.int (Int32.ofNat lT)), .val (.int (Int32.ofNat lC)), .val (.int nT), .val (.int nC), .val (.int (Int32.ofNat lR)), .val (.int cp), .val (.int r11), .val (.int r13), .val (.int r15), .val (.int r17), .val (.int r19), .val (.int r21), .val (.int (Int32.ofNat lC)), .val (.int r17), .val (.int r19), .val (.int r21), .val .null, .val (.ref xs206), .val (.ref xs211), .val (.int (0 : Int32)), .val (.int (own_b ((([r17, r19, r21] : List Int32).take lC) = (([r17, r19, r21] : List Int32).take lC))))] [(.int (0 : Int32))]))
        refine GoW.on (fun t k => XS.iconst Y233.here hx rfl (hb hby at_396) k) ?_
        show GoW p.tables e below s _ _ _ _ _ (T233.setTop (mkF m 397 #[.val (.int p1), .val (.int p2), .val (.int p3), .val (.int p4), .val (.int bT), .val (.int bC), .val (.int (Int32.ofNat lT)), .val (.int (Int32.ofNat lC)), .val (.int nT), .val (.int nC), .val (.int (Int32.ofNat lR)), .val (.int cp), .val (.int r11), .val (.int r13), .val (.int r15), .val (.int r17), .val (.int r19), .val (.int r21), .val (.int (Int32.ofNat lC)), .val (.int r17), .val (.int r19), .val (.int r21), .val .null, .val (.ref xs206), .val (.ref xs211), .val (.int (0 : Int32)), .val (.int (own_b ((([r17, r19, r21] : List Int32).take lC) = (([r17, r19, r21] : List Int32).take lC))))] [(.int (0 : Int32)), (.int (0 : Int32))]))
        refine GoW.on (fun t k => XS.icmpNo Y233.here hx rfl (hb hby at_397) rfl (teq (by decide : (0 : Int32) = (0 : Int32))).2 k) ?_
        show GoW p.tables e below s _ _ _ _ _ (T233.setTop (mkF m 400 #[.val (.int p1), .val (.int p2), .val (.int p3), .val (.int p4), .val (.int bT), .val (.int bC), .val (.int (Int32.ofNat lT)), .val (.int (Int32.ofNat lC)), .val (.int nT), .val (.int nC), .val (.int (Int32.ofNat lR)), .val (.int cp), .val (.int r11), .val (.int r13), .val (.int r15), .val (.int r17), .val (.int r19), .val (.int r21), .val (.int (Int32.ofNat lC)), .val (.int r17), .val (.int r19), .val (.int r21), .val .null, .val (.ref xs206), .val (.ref xs211), .val (.int (0 : Int32)), .val (.int (own_b ((([r17, r19, r21] : List Int32).take lC) = (([r17, r19, r21] : List Int32).take lC))))] []))
        refine GoW.on (fun t k => XS.iconst Y233.here hx rfl (hb hby at_400) (XS.goto Y233.here hx rfl (pc0 := 401) (pc' := 405) rfl (hb hby at_401) (by decide) (by decide) k)) ?_
        show GoW p.tables e below s _ _ _ _ _ (T233.setTop (mkF m 405 #[.val (.int p1), .val (.int p2), .val (.int p3), .val (.int p4), .val (.int bT), .val (.int bC), .val (.int (Int32.ofNat lT)), .val (.int (Int32.ofNat lC)), .val (.int nT), .val (.int nC), .val (.int (Int32.ofNat lR)), .val (.int cp), .val (.int r11), .val (.int r13), .val (.int r15), .val (.int r17), .val (.int r19), .val (.int r21), .val (.int (Int32.ofNat lC)), .val (.int r17), .val (.int r19), .val (.int r21), .val .null, .val (.ref xs206), .val (.ref xs211), .val (.int (0 : Int32)), .val (.int (own_b ((([r17, r19, r21] : List Int32).take lC) = (([r17, r19, r21] : List Int32).take lC))))] [(.int (1 : Int32))]))
        refine GoW.retN Y233 hx hlk hZ233 hS233 (Nat.le_refl _) hEL Ch234 (t := .boolean) Bd.returns (by simp) (hb hby at_405) (by decide) (by decide) rfl ?_
        exact ⟨rfl, Np239⟩
      · refine GoW.on (fun t k => XS.ifNo X21.here hx rfl (hb hby at_250) rfl ((if0 _ _).trans (feq hnC).1) k) ?_
        show GoW p.tables e below s _ _ _ _ _ (T21.setTop (mkF m 253 #[.val (.int p1), .val (.int p2), .val (.int p3), .val (.int p4), .val (.int bT), .val (.int bC), .val (.int (Int32.ofNat lT)), .val (.int (Int32.ofNat lC)), .val (.int nT), .val (.int nC), .val (.int (Int32.ofNat lR)), .val (.int cp), .val (.int r11), .val (.int r13), .val (.int r15), .val (.int r17), .val (.int r19), .val (.int r21), .val (.int (Int32.ofNat lC)), .val (.int r17), .val (.int r19), .val (.int r21), .val .null, .unset, .unset, .unset, .unset] []))
        refine GoW.on (fun t k => XS.aconstNull X21.here hx rfl (hb hby at_253) (XS.goto X21.here hx rfl (pc0 := 254) (pc' := 268) rfl (hb hby at_254) (by decide) (by decide) (XS.astore X21.here hx rfl (hb hby at_268) rfl rfl (l' := #[.val (.int p1), .val (.int p2), .val (.int p3), .val (.int p4), .val (.int bT), .val (.int bC), .val (.int (Int32.ofNat lT)), .val (.int (Int32.ofNat lC)), .val (.int nT), .val (.int nC), .val (.int (Int32.ofNat lR)), .val (.int cp), .val (.int r11), .val (.int r13), .val (.int r15), .val (.int r17), .val (.int r19), .val (.int r21), .val (.int (Int32.ofNat lC)), .val (.int r17), .val (.int r19), .val (.int r21), .val .null, .val .null, .unset, .unset, .unset]) rfl (XS.iload X21.here hx rfl (hb hby at_270) rfl (XS.iload X21.here hx rfl (hb hby at_272) rfl (XS.iload X21.here hx rfl (hb hby at_274) rfl (XS.iload X21.here hx rfl (hb hby at_276) rfl k))))))) ?_
        show GoW p.tables e below s _ _ _ _ _ (T21.setTop (mkF m 278 #[.val (.int p1), .val (.int p2), .val (.int p3), .val (.int p4), .val (.int bT), .val (.int bC), .val (.int (Int32.ofNat lT)), .val (.int (Int32.ofNat lC)), .val (.int nT), .val (.int nC), .val (.int (Int32.ofNat lR)), .val (.int cp), .val (.int r11), .val (.int r13), .val (.int r15), .val (.int r17), .val (.int r19), .val (.int r21), .val (.int (Int32.ofNat lC)), .val (.int r17), .val (.int r19), .val (.int r21), .val .null, .val .null, .unset, .unset, .unset] [(.int r21), (.int r19), (.int r17), (.int (Int32.ofNat lC))]))
        obtain ⟨_, _, ⟨T240, L240, k240, n240⟩, -, X240, Sn240, Gr240, ⟨Lc240, hQ240, l240, y240, z240, C240⟩, st240⟩ := callSS X21 hx (y := (⟨"com/example/rhythmwire/rhythmwire/idc/CommonSegmentsIsReportPinLaw", "str", "(ICCC)Ljava/lang/String;"⟩ : MethodName)) hown (mvT hZ (hw _ (List.mem_of_getElem? (i := 4) rfl))) (mvT hZ (hw _ (List.mem_of_getElem? (i := 5) rfl))) (mvT hZ (hw _ (List.mem_of_getElem? (i := 2) rfl))) (mvT hZ (hw _ (List.mem_of_getElem? (i := 6) rfl))) (by decide) (backOfSH (W := 0) (rm2 l Z a0 hw [] (Int32.ofNat lC) r17 r19 r21 G1 lC h0 n0 Z0 Old0 O2 P5 rfl hlC P17_0 P19_0 P21_0) hZ (hw _ (List.mem_of_getElem? (i := 6) rfl)) (hw _ (List.mem_of_getElem? (i := 2) rfl)) (by decide) (by decide) hEL Ch0.1) (g := (mkF m 278 #[.val (.int p1), .val (.int p2), .val (.int p3), .val (.int p4), .val (.int bT), .val (.int bC), .val (.int (Int32.ofNat lT)), .val (.int (Int32.ofNat lC)), .val (.int nT), .val (.int nC), .val (.int (Int32.ofNat lR)), .val (.int cp), .val (.int r11), .val (.int r13), .val (.int r15), .val (.int r17), .val (.int r19), .val (.int r21), .val (.int (Int32.ofNat lC)), .val (.int r17), .val (.int r19), .val (.int r21), .val .null, .val .null, .unset, .unset, .unset] [(.int r21), (.int r19), (.int r17), (.int (Int32.ofNat lC))])) rfl (by rw [hml]; rfl) (argsL := [(.int (Int32.ofNat lC)), (.int r17), (.int r19), (.int r21)]) (rest := []) (lenOf pd__40_ICCC_41_Ljava_47_lang_47_String_59_ rfl) rfl (by show 2 * 0 + _ ≤ _; exact Nat.le_of_eq rfl) (hb hby at_278) (fun _ _ => ⟨rfl, e21, (by decide : ((((((0 + 0) + 0) + 0) + 0) + 0) + 0) + 6 ≤ _), (by decide : ((((((0 + 0) + 0) + 0) + 0) + 0) + 0) + 12 ≤ _)⟩)
        dsimp only [Pt.U, Pt.locs, Pt.cells, Pt.slots] at X240 l240 y240 z240 st240 hQ240 Sn240 Gr240 C240
        rw [l240, y240, z240] at X240
        obtain ⟨Y240, hS240, hZ240, hown240⟩ := rebS hS0 (Nat.le_trans hk0 (Nat.le_of_eq (congrArg Array.size e21.symm))) X240 Sn240 Gr240 hZ hown
        obtain ⟨xs240, rfl, Nq240, Kq240, P240_0⟩ := hQ240
        have Ch241 := Ch0.trans C240
        have Old0_242 := Old0.keep Kq240 all0
        have Zp243 := Nat.le_trans Z0 Kq240.1
        have Np244 := Fr.app Np22 Nq240
        refine GoW.via st240 ?_
        show GoW p.tables e below s _ _ _ _ _ (T240.setTop (mkF m 281 #[.val (.int p1), .val (.int p2), .val (.int p3), .val (.int p4), .val (.int bT), .val (.int bC), .val (.int (Int32.ofNat lT)), .val (.int (Int32.ofNat lC)), .val (.int nT), .val (.int nC), .val (.int (Int32.ofNat lR)), .val (.int cp), .val (.int r11), .val (.int r13), .val (.int r15), .val (.int r17), .val (.int r19), .val (.int r21), .val (.int (Int32.ofNat lC)), .val (.int r17), .val (.int r19), .val (.int r21), .val .null, .val .null, .unset, .unset, .unset] [(.ref xs240)]))
        refine GoW.on (fun t k => XS.astore Y240.here hx rfl (hb hby at_281) rfl rfl (l' := #[.val (.int p1), .val (.int p2), .val (.int p3), .val (.int p4), .val (.int bT), .val (.int bC), .val (.int (Int32.ofNat lT)), .val (.int (Int32.ofNat lC)), .val (.int nT), .val (.int nC), .val (.int (Int32.ofNat lR)), .val (.int cp), .val (.int r11), .val (.int r13), .val (.int r15), .val (.int r17), .val (.int r19), .val (.int r21), .val (.int (Int32.ofNat lC)), .val (.int r17), .val (.int r19), .val (.int r21), .val .null, .val .null, .val (.ref xs240), .unset, .unset]) rfl (XS.iload Y240.here hx rfl (hb hby at_283) rfl k)) ?_
        show GoW p.tables e below s _ _ _ _ _ (T240.setTop (mkF m 285 #[.val (.int p1), .val (.int p2), .val (.int p3), .val (.int p4), .val (.int bT), .val (.int bC), .val (.int (Int32.ofNat lT)), .val (.int (Int32.ofNat lC)), .val (.int nT), .val (.int nC), .val (.int (Int32.ofNat lR)), .val (.int cp), .val (.int r11), .val (.int r13), .val (.int r15), .val (.int r17), .val (.int r19), .val (.int r21), .val (.int (Int32.ofNat lC)), .val (.int r17), .val (.int r19), .val (.int r21), .val .null, .val .null, .val (.ref xs240), .unset, .unset] [(.int nT)]))
        refine GoW.on (fun t k => XS.ifYes Y240.here hx rfl (pc0 := 285) (pc' := 312) rfl (hb hby at_285) rfl ((if0 _ _).trans (feq hnT).2) (by decide) (by decide) k) ?_
        show GoW p.tables e below s _ _ _ _ _ (T240.setTop (mkF m 312 #[.val (.int p1), .val (.int p2), .val (.int p3), .val (.int p4), .val (.int bT), .val (.int bC), .val (.int (Int32.ofNat lT)), .val (.int (Int32.ofNat lC)), .val (.int nT), .val (.int nC), .val (.int (Int32.ofNat lR)), .val (.int cp), .val (.int r11), .val (.int r13), .val (.int r15), .val (.int r17), .val (.int r19), .val (.int r21), .val (.int (Int32.ofNat lC)), .val (.int r17), .val (.int r19), .val (.int r21), .val .null, .val .null, .val (.ref xs240), .unset, .unset] []))
        refine GoW.on (fun t k => XS.iconst Y240.here hx rfl (hb hby at_312) (XS.istore Y240.here hx rfl (hb hby at_313) rfl (l' := #[.val (.int p1), .val (.int p2), .val (.int p3), .val (.int p4), .val (.int bT), .val (.int bC), .val (.int (Int32.ofNat lT)), .val (.int (Int32.ofNat lC)), .val (.int nT), .val (.int nC), .val (.int (Int32.ofNat lR)), .val (.int cp), .val (.int r11), .val (.int r13), .val (.int r15), .val (.int r17), .val (.int r19), .val (.int r21), .val (.int (Int32.ofNat lC)), .val (.int r17), .val (.int r19), .val (.int r21), .val .null, .val .null, .val (.ref xs240), .val (.int (0 : Int32)), .unset]) rfl (XS.iload Y240.here hx rfl (hb hby at_315) rfl k))) ?_
        show GoW p.tables e below s _ _ _ _ _ (T240.setTop (mkF m 317 #[.val (.int p1), .val (.int p2), .val (.int p3), .val (.int p4), .val (.int bT), .val (.int bC), .val (.int (Int32.ofNat lT)), .val (.int (Int32.ofNat lC)), .val (.int nT), .val (.int nC), .val (.int (Int32.ofNat lR)), .val (.int cp), .val (.int r11), .val (.int r13), .val (.int r15), .val (.int r17), .val (.int r19), .val (.int r21), .val (.int (Int32.ofNat lC)), .val (.int r17), .val (.int r19), .val (.int r21), .val .null, .val .null, .val (.ref xs240), .val (.int (0 : Int32)), .unset] [(.int nC)]))
        refine GoW.on (fun t k => XS.ifYes Y240.here hx rfl (pc0 := 317) (pc' := 370) rfl (hb hby at_317) rfl ((if0 _ _).trans (feq hnC).2) (by decide) (by decide) k) ?_
        show GoW p.tables e below s _ _ _ _ _ (T240.setTop (mkF m 370 #[.val (.int p1), .val (.int p2), .val (.int p3), .val (.int p4), .val (.int bT), .val (.int bC), .val (.int (Int32.ofNat lT)), .val (.int (Int32.ofNat lC)), .val (.int nT), .val (.int nC), .val (.int (Int32.ofNat lR)), .val (.int cp), .val (.int r11), .val (.int r13), .val (.int r15), .val (.int r17), .val (.int r19), .val (.int r21), .val (.int (Int32.ofNat lC)), .val (.int r17), .val (.int r19), .val (.int r21), .val .null, .val .null, .val (.ref xs240), .val (.int (0 : Int32)), .unset] []))
        refine GoW.on (fun t k => XS.iconst Y240.here hx rfl (hb hby at_370) (XS.istore Y240.here hx rfl (hb hby at_371) rfl (l' := #[.val (.int p1), .val (.int p2), .val (.int p3), .val (.int p4), .val (.int bT), .val (.int bC), .val (.int (Int32.ofNat lT)), .val (.int (Int32.ofNat lC)), .val (.int nT), .val (.int nC), .val (.int (Int32.ofNat lR)), .val (.int cp), .val (.int r11), .val (.int r13), .val (.int r15), .val (.int r17), .val (.int r19), .val (.int r21), .val (.int (Int32.ofNat lC)), .val (.int r17), .val (.int r19), .val (.int r21), .val .null, .val .null, .val (.ref xs240), .val (.int (0 : Int32)), .val (.int (0 : Int32))]) rfl (XS.aload Y240.here hx rfl (hb hby at_373) rfl rfl (XS.aload Y240.here hx rfl (hb hby at_375) rfl rfl (XS.aload Y240.here hx rfl (hb hby at_377) rfl rfl k))))) ?_
        show GoW p.tables e below s _ _ _ _ _ (T240.setTop (mkF m 379 #[.val (.int p1), .val (.int p2), .val (.int p3), .val (.int p4), .val (.int bT), .val (.int bC), .val (.int (Int32.ofNat lT)), .val (.int (Int32.ofNat lC)), .val (.int nT), .val (.int nC), .val (.int (Int32.ofNat lR)), .val (.int cp), .val (.int r11), .val (.int r13), .val (.int r15), .val (.int r17), .val (.int r19), .val (.int r21), .val (.int (Int32.ofNat lC)), .val (.int r17), .val (.int r19), .val (.int r21), .val .null, .val .null, .val (.ref xs240), .val (.int (0 : Int32)), .val (.int (0 : Int32))] [(.ref xs240), .null, .null]))
        obtain ⟨_, _, ⟨T245, L245, k245, n245⟩, -, X245, Sn245, Gr245, ⟨Lc245, hQ245, l245, y245, z245, C245⟩, st245⟩ := callSS Y240 hx (y := (⟨"com/example/rhythmwire/rhythmwire/idc/CommonSegments", "isReport", "(Ljava/lang/String;Ljava/lang/String;Ljava/lang/String;)Z"⟩ : MethodName)) hown240 (mvT hZ240 (hw _ (List.mem_of_getElem? (i := 29) rfl))) (mvT hZ240 (hw _ (List.mem_of_getElem? (i := 30) rfl))) (mvT hZ240 (hw _ (List.mem_of_getElem? (i := 31) rfl))) (mvT hZ240 (hw _ (List.mem_of_getElem? (i := 32) rfl))) (by decide) (backOfSH (W := 0) (rm6nn l Z a0 hw [] xs240 G1 T240.heap n0 Zp243 Old0_242 O2 P5) hZ240 (hw _ (List.mem_of_getElem? (i := 32) rfl)) (hw _ (List.mem_of_getElem? (i := 31) rfl)) (by decide) (by decide) hEL Ch241.1) (g := (mkF m 379 #[.val (.int p1), .val (.int p2), .val (.int p3), .val (.int p4), .val (.int bT), .val (.int bC), .val (.int (Int32.ofNat lT)), .val (.int (Int32.ofNat lC)), .val (.int nT), .val (.int nC), .val (.int (Int32.ofNat lR)), .val (.int cp), .val (.int r11), .val (.int r13), .val (.int r15), .val (.int r17), .val (.int r19), .val (.int r21), .val (.int (Int32.ofNat lC)), .val (.int r17), .val (.int r19), .val (.int r21), .val .null, .val .null, .val (.ref xs240), .val (.int (0 : Int32)), .val (.int (0 : Int32))] [(.ref xs240), .null, .null])) rfl (by rw [hml]; rfl) (argsL := [.null, .null, (.ref xs240)]) (rest := []) (lenOf pd__40_Ljava_47_lang_47_String_59_Ljava_47_lang_47_String_59_Ljava_47_lang_47_String_59__41_Z rfl) rfl (by show 2 * 0 + _ ≤ _; exact Nat.le_of_eq rfl) (hb hby at_379) (fun _ _ => ⟨rfl, rfl, (by decide : (((((((0 + 0) + 0) + 0) + 0) + 0) + 0) + 6) + 2 ≤ _), (by decide : (((((((0 + 0) + 0) + 0) + 0) + 0) + 0) + 12) + 12 ≤ _)⟩)
        dsimp only [Pt.U, Pt.locs, Pt.cells, Pt.slots] at X245 l245 y245 z245 st245 hQ245 Sn245 Gr245 C245
        rw [l245, y245, z245] at X245
        obtain ⟨Y245, hS245, hZ245, hown245⟩ := rebS hS240 (Nat.le_refl _) X245 Sn245 Gr245 hZ240 hown240
        obtain ⟨rfl, Nq245, Kq245⟩ := hQ245
        have Ch246 := Ch241.trans C245
        have Old0_247 := Old0_242.keep Kq245 all0
        have P240_248 := P240_0.keep0 Kq245
        have Zp249 := Nat.le_trans Zp243 Kq245.1
        have Np250 := Fr.app Np244 Nq245
        refine GoW.via st245 ?_
        show GoW p.tables e below s _ _ _ _ _ (T245.setTop (mkF m 382 #[.val (.int p1), .val (.int p2), .val (.int p3), .val (.int p4), .val (.int bT), .val (.int bC), .val (.int (Int32.ofNat lT)), .val (.int (Int32.ofNat lC)), .val (.int nT), .val (.int nC), .val (.int (Int32.ofNat lR)), .val (.int cp), .val (.int r11), .val (.int r13), .val (.int r15), .val (.int r17), .val (.int r19), .val (.int r21), .val (.int (Int32.ofNat lC)), .val (.int r17), .val (.int r19), .val (.int r21), .val .null, .val .null, .val (.ref xs240), .val (.int (0 : Int32)), .val (.int (0 : Int32))] [(.int (0 : Int32))]))
        refine GoW.on (fun t k => XS.iload Y245.here hx rfl (hb hby at_382) rfl k) ?_
        show GoW p.tables e below s _ _ _ _ _ (T245.setTop (mkF m 384 #[.val (.int p1), .val (.int p2), .val (.int p3), .val (.int p4), .val (.int bT), .val (.int bC), .val (.int (Int32.ofNat lT)), .val (.int (Int32.ofNat lC)), .val (.int nT), .val (.int nC), .val (.int (Int32.ofNat lR)), .val (.int cp), .val (.int r11), .val (.int r13), .val (.int r15), .val (.int r17), .val (.int r19), .val (.int r21), .val (.int (Int32.ofNat lC)), .val (.int r17), .val (.int r19), .val (.int r21), .val .null, .val .null, .val (.ref xs240), .val (.int (0 : Int32)), .val (.int (0 : Int32))] [(.int (0 : Int32)), (.int (0 : Int32))]))
        refine GoW.on (fun t k => XS.ifYes Y245.here hx rfl (pc0 := 384) (pc' := 396) rfl (hb hby at_384) rfl ((if0 _ _).trans (teq (by decide : (0 : Int32) = (0 : Int32))).1) (by decide) (by decide) k) ?_
        show GoW p.tables e below s _ _ _ _ _ (T245.setTop (mkF m 396 #[.val (.int p1), .val (.int p2), .val (.int p3), .val (.int p4), .val (.int bT), .val (.int bC), .val (.int (Int32.ofNat lT)), .val (.int (Int32.ofNat lC)), .val (.int nT), .val (.int nC), .val (.int (Int32.ofNat lR)), .val (.int cp), .val (.int r11), .val (.int r13), .val (.int r15), .val (.int r17), .val (.int r19), .val (.int r21), .val (.int (Int32.ofNat lC)), .val (.int r17), .val (.int r19), .val (.int r21), .val .null, .val .null, .val (.ref xs240), .val (.int (0 : Int32)), .val (.int (0 : Int32))] [(.int (0 : Int32))]))
        refine GoW.on (fun t k => XS.iconst Y245.here hx rfl (hb hby at_396) k) ?_
        show GoW p.tables e below s _ _ _ _ _ (T245.setTop (mkF m 397 #[.val (.int p1), .val (.int p2), .val (.int p3), .val (.int p4), .val (.int bT), .val (.int bC), .val (.int (Int32.ofNat lT)), .val (.int (Int32.ofNat lC)), .val (.int nT), .val (.int nC), .val (.int (Int32.ofNat lR)), .val (.int cp), .val (.int r11), .val (.int r13), .val (.int r15), .val (.int r17), .val (.int r19), .val (.int r21), .val (.int (Int32.ofNat lC)), .val (.int r17), .val (.int r19), .val (.int r21), .val .null, .val .null, .val (.ref xs240), .val (.int (0 : Int32)), .val (.int (0 : Int32))] [(.int (0 : Int32)), (.int (0 : Int32))]))
        refine GoW.on (fun t k => XS.icmpNo Y245.here hx rfl (hb hby at_397) rfl (teq (by decide : (0 : Int32) = (0 : Int32))).2 k) ?_
        show GoW p.tables e below s _ _ _ _ _ (T245.setTop (mkF m 400 #[.val (.int p1), .val (.int p2), .val (.int p3), .val (.int p4), .val (.int bT), .val (.int bC), .val (.int (Int32.ofNat lT)), .val (.int (Int32.ofNat lC)), .val (.int nT), .val (.int nC), .val (.int (Int32.ofNat lR)), .val (.int cp), .val (.int r11), .val (.int r13), .val (.int r15), .val (.int r17), .val (.int r19), .val (.int r21), .val (.int (Int32.ofNat lC)), .val (.int r17), .val (.int r19), .val (.int r21), .val .null, .val .null, .val (.ref xs240), .val (.int (0 : Int32)), .val (.int (0 : Int32))] []))
        refine GoW.on (fun t k => XS.iconst Y245.here hx rfl (hb hby at_400) (XS.goto Y245.here hx rfl (pc0 := 401) (pc' := 405) rfl (hb hby at_401) (by decide) (by decide) k)) ?_
        show GoW p.tables e below s _ _ _ _ _ (T245.setTop (mkF m 405 #[.val (.int p1), .val (.int p2), .val (.int p3), .val (.int p4), .val (.int bT), .val (.int bC), .val (.int (Int32.ofNat lT)), .val (.int (Int32.ofNat lC)), .val (.int nT), .val (.int nC), .val (.int (Int32.ofNat lR)), .val (.int cp), .val (.int r11), .val (.int r13), .val (.int r15), .val (.int r17), .val (.int r19), .val (.int r21), .val (.int (Int32.ofNat lC)), .val (.int r17), .val (.int r19), .val (.int r21), .val .null, .val .null, .val (.ref xs240), .val (.int (0 : Int32)), .val (.int (0 : Int32))] [(.int (1 : Int32))]))
        refine GoW.retN Y245 hx hlk hZ245 hS245 (Nat.le_refl _) hEL Ch246 (t := .boolean) Bd.returns (by simp) (hb hby at_405) (by decide) (by decide) rfl ?_
        exact ⟨rfl, Np250⟩
set_option maxRecDepth 65536 in
set_option maxHeartbeats 40000000 in
theorem comes_1 {Post : Tables → Env → Array Value → State → Outcome → State → Prop} (hpost : ∀ tb e args s v u, (limb_1_1.after args s (.returned v) u = true ∧ limb_1_2.after args s (.returned v) u = true ∧ True) → Jvm.D.FramedW s (.returned v) u (Jvm.fieldLocs frame_1_writes args s ++ Jvm.arrayLocs frame_1_arrays args s ++ Jvm.staticLocs frame_1_statics s) 32 2176 → Post tb e args s (.returned v) u) :
    ArmFor flags0 classFile x code maxLocals ret World_1 tables_1 room_1 Calls_1 rest_1 Pre_1 Post := by
  intro l hfl _ _ p e ha hc hk s m args below hf hA hF happ hP
  obtain ⟨hcalls, hrest, hpre⟩ := hP
  obtain ⟨-, -, -, hnamed, -, -, -, hat⟩ := (Spec.applies_iff hf).mp happ
  obtain ⟨hg, hn⟩ := and_e (Cond.before_iff.mp (show (Jvm.Cond.and given_1 narrow_1).before args s = true from hpre))
  obtain ⟨gg1, gg2⟩ := and_e hg
  obtain ⟨gg3, gg4⟩ := and_e gg2
  obtain ⟨gg5, gg6⟩ := and_e gg4
  obtain ⟨gg7, gg8⟩ := and_e gg6
  obtain ⟨w0, w1, w2, w3, rfl⟩ : ∃ w0 w1 w2 w3 : Value, args = #[w0, w1, w2, w3] := by
    have hs : args.size = 4 := by simpa [Cond.value, given_1] using gg1
    obtain ⟨L⟩ := args
    match L, hs with
    | [w0, w1, w2, w3], _ => exact ⟨w0, w1, w2, w3, rfl⟩
  have hw := fun d (hd : d ∈ tables_1) => atoms_spec (ws := Jvm.Cond.code x code maxLocals ret :: tables_1) hat d (List.mem_cons_of_mem _ hd)
  have hfit : Fit s := fun {y c} hc i hi => by
    obtain ⟨ha, rfl⟩ := Array.getElem?_eq_some_iff.mp hc
    have q := List.all_eq_true.mp ((Array.all_eq_true_iff_forall_mem.mp hF) _ (Array.getElem_mem ha)) i (List.mem_range.mpr hi)
    simpa [Array.getElem?_eq_getElem hi] using q
  obtain ⟨hsets, hown0⟩ := atoms_of _ (rest_1_c_eq ▸ (show rest_1_c.before _ s = true from hrest))
  obtain ⟨i0, ei0⟩ := is_v gg3
  obtain rfl : w0 = (.int i0) := Option.some.inj ei0
  obtain ⟨i1, ei1⟩ := is_v gg5
  obtain rfl : w1 = (.int i1) := Option.some.inj ei1
  obtain ⟨i2, ei2⟩ := is_v gg7
  obtain rfl : w2 = (.int i2) := Option.some.inj ei2
  obtain ⟨i3, ei3⟩ := is_v gg8
  obtain rfl : w3 = (.int i3) := Option.some.inj ei3
  obtain ⟨G1, ev1⟩ := is_v (Cond.before_iff.mp (hsets _ (List.mem_of_getElem? (i := 1) rfl)))
  have O2 := Sta.start ev1 (Or.inl (hsets _ (List.mem_of_getElem? (i := 0) rfl)))
  have P5 : ¬ (G1 = (0 : Int32)) := gotF (Cond.eq_ints ev1 (Term.int_eval (0))) (not_v (Cond.before_iff.mp (hsets _ (List.mem_of_getElem? (i := 2) rfl))))
  have HC : CHv s own_EL s.vm s.heap := CHv.start (own_EW hw) (fun q hq => hcalls.1 q hq) (hsets _ (List.mem_of_getElem? (i := 2) rfl)) (hw _ (List.mem_of_getElem? (i := 22) rfl)) (hw _ (List.mem_of_getElem? (i := 8) rfl))
  obtain ⟨n, o, h1, h2, h3, _, L, rfl, ⟨rfl, N⟩, -, hq⟩ := rm0 l s _ hw tables_1 i0 i1 i2 i3 G1 s.heap s.heap.size (Nat.le_refl _) (Old.start s) O2 P5 p e ha hc hk s m _ below hf ((Spec.applies_iff_loose hf).mp happ).1 ⟨rfl, State.Warmed39.refl s, rfl, HC⟩ trivial
  refine ⟨n, _, h1, h2, h3, hpost _ _ _ _ _ _ ⟨Cond.after_iff.mpr rfl, Cond.after_iff.mpr (eq_i res_at (Term.int_eval (1)) rfl), trivial⟩ ⟨hq.1, hq.2.1, hq.2.2.1, (hq.2.2.2.sift fun y hy => Or.inr (N y hy)).mono (by decide) (by decide)⟩⟩
theorem main_1_1 : Claimed_1_1 := comes_1 fun _ _ _ _ _ _ h hF => ⟨h.1, hF⟩
theorem main_1_2 : Claimed_1_2 := comes_1 fun _ _ _ _ _ _ h hF => ⟨h.2.1, hF⟩
end Jvm.Pilot.@@N@@
namespace Jvm.Pilot.@@N@@
open Jvm Jvm.ClassFile Sem Op Lib Jvm.Free Jvm.Stand Jvm.Pilot.@@N@@.Jvm.D
/-! MADE BY PROGRAM (witnessworld.py) out of the Statement's table words and the real class files: 20 classes; the members and pool entries that the words name. The judged class is class 1, her method 3. -/
namespace start1
open Jvm.ClassFile
def u (s : String) : CpInfo := .utf8 (stringToUtf16 s)
/-- a pool by its gaps: so many unusable entries, then the entry; so many at the end -/
def gap : Nat → List CpInfo → List CpInfo
  | 0, r => r
  | n + 1, r => .unusable :: gap n r
def poolList (es : List (Nat × CpInfo)) (last : Nat) : List CpInfo := es.foldr (fun e r => gap e.1 (e.2 :: r)) (gap last [])
def pool (es : List (Nat × CpInfo)) (last : Nat) : Array CpInfo := ⟨poolList es last⟩
def fileOf (pool : Array CpInfo) (this : Nat) (attrs : Array Attribute := #[]) (ms : Array MethodInfo := #[]) (fl : Nat := 33) (sup : Nat := 0) (ifs : Array Nat := #[]) (fds : Array FieldInfo := #[]) : ClassFile where
  minorVersion := 0
  majorVersion := 65
  constantPool := pool
  accessFlags := fl
  thisClass := this
  superClass := sup
  interfaces := ifs
  fields := fds
  methods := ms
  attributes := attrs
def plain (name : String) (sup : Option ClassId) : Class where
  name := name
  kind := .ordinary
  loader := none
  accessFlags := 33
  super := sup
  interfaces := #[]
  cf := none
  fields := #[]
  methods := #[]
  instanceTypes := #[]
  staticTypes := #[]
  resolved := #[]
  callSites := []
  init := .initialized
  statics := none
  mirror := none

def pool0 : Array CpInfo := pool [(5, u "<init>"), (0, u "()V"), (1, .class_ 10), (1, u "java/lang/Object")] 113

def k0c0 : Code := { maxStack := 0, maxLocals := 1, code := object_method_1_code, exceptionTable := #[], attributes := #[] }
def k0m0 : Method := { name := "<init>", desc := "()V", sig := { parameters := [], returnType := none }, accessFlags := 1, code := some k0c0 }
/-- java/lang/Object -/
def k0 : Class := { plain "java/lang/Object" none with
  accessFlags := 33
  interfaces := #[]
  cf := some (fileOf pool0 8 #[] #[{ accessFlags := 1, nameIndex := 5, descriptorIndex := 6, attributes := #[] }] 33 0 #[] #[])
  fields := #[]
  methods := #[k0m0]
  instanceTypes := #[]
  staticTypes := #[]
  resolved := Array.replicate 124 none
  statics := none }

def pool1 : Array CpInfo := pool [(2, .class_ 4), (1, u "java/lang/Object"), (0, u "<init>"), (0, u "()V"), (0, .class_ 8), (0, u "java/lang/String"), (0, .methodref 7 10), (0, .nameAndType 5 11), (0, u "([C)V"), (0, .methodref 13 14), (0, .class_ 15), (0, .nameAndType 16 17), (0, u "com/example/rhythmwire/rhythmwire/idc/CommonSegmentsIsReportPinLaw"), (0, u "ch"), (0, u "(IZ)C"), (0, .methodref 13 19), (0, .nameAndType 20 21), (0, u "str"), (0, u "(ICCC)Ljava/lang/String;"), (0, .methodref 23 24), (0, .class_ 25), (0, .nameAndType 26 27), (0, u "com/example/rhythmwire/rhythmwire/idc/CommonSegments"), (0, u "isReport"), (0, u "(Ljava/lang/String;Ljava/lang/String;Ljava/lang/String;)Z"), (3, u "law"), (0, u "(IIII)Z")] 2

def k1m0 : Method := { name := "<init>", desc := "()V", sig := { parameters := [], returnType := none }, accessFlags := 2, code := none }
def k1c1 : Code := { maxStack := 3, maxLocals := 2, code := method_2_code, exceptionTable := #[], attributes := #[] }
def k1m1 : Method := { name := "ch", desc := "(IZ)C", sig := { parameters := [.int, .boolean], returnType := some .char }, accessFlags := 10, code := some k1c1 }
def k1c2 : Code := { maxStack := 6, maxLocals := 4, code := method_3_code, exceptionTable := #[], attributes := #[] }
def k1m2 : Method := { name := "str", desc := "(ICCC)Ljava/lang/String;", sig := { parameters := [.int, .char, .char, .char], returnType := some (.object "java/lang/String") }, accessFlags := 10, code := some k1c2 }
def k1c3 : Code := { maxStack := 4, maxLocals := 27, code := code, exceptionTable := #[], attributes := #[] }
def k1m3 : Method := { name := "law", desc := "(IIII)Z", sig := { parameters := [.int, .int, .int, .int], returnType := some .boolean }, accessFlags := 9, code := some k1c3 }
/-- com/example/rhythmwire/rhythmwire/idc/CommonSegmentsIsReportPinLaw -/
def k1 : Class := { plain "com/example/rhythmwire/rhythmwire/idc/CommonSegmentsIsReportPinLaw" (some 0) with
  accessFlags := 49
  interfaces := #[]
  cf := some (fileOf pool1 13 #[] #[{ accessFlags := 2, nameIndex := 5, descriptorIndex := 6, attributes := #[] }, { accessFlags := 10, nameIndex := 16, descriptorIndex := 17, attributes := #[] }, { accessFlags := 10, nameIndex := 20, descriptorIndex := 21, attributes := #[] }, { accessFlags := 9, nameIndex := 31, descriptorIndex := 32, attributes := #[] }] 49 2 #[] #[])
  fields := #[]
  methods := #[k1m0, k1m1, k1m2, k1m3]
  instanceTypes := #[]
  staticTypes := #[]
  resolved := Array.replicate 35 none
  statics := none }

def pool2 : Array CpInfo := pool [(1, .class_ 2), (0, u "java/io/Serializable"), (0, .class_ 4), (0, u "java/lang/Object")] 2

/-- java/io/Serializable -/
def k2 : Class := { plain "java/io/Serializable" (some 0) with
  accessFlags := 1537
  interfaces := #[]
  cf := some (fileOf pool2 1 #[] #[] 1537 3 #[] #[])
  fields := #[]
  methods := #[]
  instanceTypes := #[]
  staticTypes := #[]
  resolved := Array.replicate 7 none
  statics := none }

def pool3 : Array CpInfo := pool [(1, .class_ 2), (0, u "java/lang/Comparable"), (0, .class_ 4), (0, u "java/lang/Object")] 7

/-- java/lang/Comparable -/
def k3 : Class := { plain "java/lang/Comparable" (some 0) with
  accessFlags := 1537
  interfaces := #[]
  cf := some (fileOf pool3 1 #[] #[] 1537 3 #[] #[])
  fields := #[]
  methods := #[]
  instanceTypes := #[]
  staticTypes := #[]
  resolved := Array.replicate 12 none
  statics := none }

def pool4 : Array CpInfo := pool [(2, .class_ 4), (1, u "java/lang/CharSequence"), (42, .class_ 48), (0, u "java/lang/CharSequence$1CodePointIterator"), (10, .class_ 60), (0, u "java/lang/CharSequence$1CharIterator"), (5, .class_ 67), (0, u "java/lang/Object")] 63

/-- java/lang/CharSequence -/
def k4 : Class := { plain "java/lang/CharSequence" (some 0) with
  accessFlags := 1537
  interfaces := #[]
  cf := some (fileOf pool4 2 #[.nestMembers #[47, 59]] #[] 1537 66 #[] #[])
  fields := #[]
  methods := #[]
  instanceTypes := #[]
  staticTypes := #[]
  resolved := Array.replicate 131 none
  statics := none }

def pool5 : Array CpInfo := pool [(1, .class_ 2), (0, u "java/lang/constant/Constable"), (0, .class_ 4), (0, u "java/lang/Object")] 6

/-- java/lang/constant/Constable -/
def k5 : Class := { plain "java/lang/constant/Constable" (some 0) with
  accessFlags := 1537
  interfaces := #[]
  cf := some (fileOf pool5 1 #[] #[] 1537 3 #[] #[])
  fields := #[]
  methods := #[]
  instanceTypes := #[]
  staticTypes := #[]
  resolved := Array.replicate 11 none
  statics := none }

def pool6 : Array CpInfo := pool [(1, .class_ 2), (0, u "java/lang/constant/ConstantDesc"), (0, .class_ 4), (0, u "java/lang/Object")] 32

/-- java/lang/constant/ConstantDesc -/
def k6 : Class := { plain "java/lang/constant/ConstantDesc" (some 0) with
  accessFlags := 1537
  interfaces := #[]
  cf := some (fileOf pool6 1 #[] #[] 1537 3 #[] #[])
  fields := #[]
  methods := #[]
  instanceTypes := #[]
  staticTypes := #[]
  resolved := Array.replicate 37 none
  statics := none }

def pool7 : Array CpInfo := pool [(1, .methodref 2 3), (0, .class_ 4), (0, .nameAndType 5 6), (0, u "java/lang/Object"), (0, u "<init>"), (0, u "()V"), (0, .string 8), (0, u ""), (0, .fieldref 10 11), (0, .class_ 12), (0, .nameAndType 13 14), (0, u "java/lang/String"), (0, u "value"), (0, u "[B"), (0, .fieldref 10 16), (0, .nameAndType 17 18), (0, u "coder"), (0, u "B"), (2, u "hash"), (0, u "I"), (2, u "hashIsZero"), (0, u "Z"), (0, .methodref 10 28), (0, .nameAndType 5 29), (0, u "([CIILjava/lang/Void;)V"), (8, .fieldref 10 39), (0, .nameAndType 40 26), (0, u "COMPACT_STRINGS"), (1, .class_ 44), (1, u "java/lang/StringUTF16"), (0, u "compress"), (1, .methodref 42 48), (0, .nameAndType 49 50), (0, u "coderFromArrayLen"), (0, u "([BI)B"), (56, .class_ 109), (1, u "java/lang/StringLatin1"), (67, .methodref 42 178), (0, .nameAndType 45 179), (0, u "([CII)[B"), (361, .methodref 107 542), (0, .nameAndType 543 544), (0, u "equals"), (0, u "([B[B)Z"), (28, u "(Ljava/lang/Object;)Z"), (1, .class_ 576), (0, u "java/lang/CharSequence"), (22, u "CASE_INSENSITIVE_ORDER"), (0, u "Ljava/util/Comparator;"), (409, u "([C)V"), (90, u "serialPersistentFields"), (0, u "[Ljava/io/ObjectStreamField;"), (0, .class_ 1104), (0, u "java/lang/String$CaseInsensitiveComparator"), (1, .class_ 1107), (0, u "java/io/Serializable"), (0, .class_ 1109), (0, u "java/lang/Comparable"), (0, .class_ 1111), (0, u "java/lang/constant/Constable"), (0, .class_ 1113), (0, u "java/lang/constant/ConstantDesc"), (2, u "serialVersionUID"), (0, u "J"), (3, u "REPL"), (0, u "C"), (2, u "LATIN1"), (1, u "UTF16")] 323

def k7m0 : Method := { name := "<init>", desc := "()V", sig := { parameters := [], returnType := none }, accessFlags := 1, code := none }
def k7c1 : Code := { maxStack := 5, maxLocals := 2, code := jdk_42_method_3_code, exceptionTable := #[], attributes := #[] }
def k7m1 : Method := { name := "<init>", desc := "([C)V", sig := { parameters := [(.array .char)], returnType := none }, accessFlags := 1, code := some k7c1 }
def k7c2 : Code := { maxStack := 2, maxLocals := 3, code := jdk_42_method_66_code, exceptionTable := #[], attributes := #[] }
def k7m2 : Method := { name := "equals", desc := "(Ljava/lang/Object;)Z", sig := { parameters := [(.object "java/lang/Object")], returnType := some .boolean }, accessFlags := 1, code := some k7c2 }
def k7c3 : Code := { maxStack := 4, maxLocals := 6, code := jdk_42_method_149_code, exceptionTable := #[], attributes := #[] }
def k7m3 : Method := { name := "<init>", desc := "([CIILjava/lang/Void;)V", sig := { parameters := [(.array .char), .int, .int, (.object "java/lang/Void")], returnType := none }, accessFlags := 2, code := some k7c3 }
/-- java/lang/String -/
def k7 : Class := { plain "java/lang/String" (some 0) with
  accessFlags := 49
  interfaces := #[2, 3, 4, 5, 6]
  cf := some (fileOf pool7 10 #[.nestMembers #[1103]] #[{ accessFlags := 1, nameIndex := 5, descriptorIndex := 6, attributes := #[] }, { accessFlags := 1, nameIndex := 5, descriptorIndex := 1010, attributes := #[] }, { accessFlags := 1, nameIndex := 543, descriptorIndex := 573, attributes := #[] }, { accessFlags := 2, nameIndex := 5, descriptorIndex := 29, attributes := #[] }] 49 2 #[1106, 1108, 575, 1110, 1112] #[{ accessFlags := 18, nameIndex := 13, descriptorIndex := 14, attributes := #[] }, { accessFlags := 18, nameIndex := 17, descriptorIndex := 18, attributes := #[] }, { accessFlags := 2, nameIndex := 21, descriptorIndex := 22, attributes := #[] }, { accessFlags := 2, nameIndex := 25, descriptorIndex := 26, attributes := #[] }, { accessFlags := 26, nameIndex := 1116, descriptorIndex := 1117, attributes := #[] }, { accessFlags := 24, nameIndex := 40, descriptorIndex := 26, attributes := #[] }, { accessFlags := 26, nameIndex := 1101, descriptorIndex := 1102, attributes := #[] }, { accessFlags := 26, nameIndex := 1121, descriptorIndex := 1122, attributes := #[] }, { accessFlags := 25, nameIndex := 599, descriptorIndex := 600, attributes := #[] }, { accessFlags := 24, nameIndex := 1125, descriptorIndex := 18, attributes := #[] }, { accessFlags := 24, nameIndex := 1127, descriptorIndex := 18, attributes := #[] }])
  fields := #[{ name := "value", type := (.array .byte), accessFlags := 18, slot := 0, constantValue := 0 }, { name := "coder", type := .byte, accessFlags := 18, slot := 1, constantValue := 0 }, { name := "hash", type := .int, accessFlags := 2, slot := 2, constantValue := 0 }, { name := "hashIsZero", type := .boolean, accessFlags := 2, slot := 3, constantValue := 0 }, { name := "serialVersionUID", type := .long, accessFlags := 26, slot := 0, constantValue := 0 }, { name := "COMPACT_STRINGS", type := .boolean, accessFlags := 24, slot := 1, constantValue := 0 }, { name := "serialPersistentFields", type := (.array (.object "java/io/ObjectStreamField")), accessFlags := 26, slot := 2, constantValue := 0 }, { name := "REPL", type := .char, accessFlags := 26, slot := 3, constantValue := 0 }, { name := "CASE_INSENSITIVE_ORDER", type := (.object "java/util/Comparator"), accessFlags := 25, slot := 4, constantValue := 0 }, { name := "LATIN1", type := .byte, accessFlags := 24, slot := 5, constantValue := 0 }, { name := "UTF16", type := .byte, accessFlags := 24, slot := 6, constantValue := 0 }]
  methods := #[k7m0, k7m1, k7m2, k7m3]
  instanceTypes := #[(.array .byte), .byte, .int, .boolean]
  staticTypes := #[.long, .boolean, (.array (.object "java/io/ObjectStreamField")), .char, (.object "java/util/Comparator"), .byte, .byte]
  resolved := Array.replicate 1451 none
  statics := some 0 }

def pool8 : Array CpInfo := pool [(2, .class_ 4), (1, u "java/lang/Object"), (0, u "<init>"), (0, u "()V"), (22, .class_ 31), (1, u "java/lang/String"), (8, .class_ 42), (1, u "com/example/rhythmwire/rhythmwire/idc/CommonSegments"), (29, u "(Ljava/lang/Object;)Z"), (65, .string 139), (0, u "ED"), (0, .methodref 29 141), (0, .nameAndType 142 72), (0, u "equals"), (130, u "REPORT_TYPE"), (0, u "Ljava/lang/String;"), (1, u "UNREADABLE_DATE"), (0, u "UNREADABLE_NUMBER"), (0, u "UNREADABLE_SET_ID"), (0, u "UNREADABLE_INSTANCE"), (0, u "BASE64"), (0, u "FIRST_IDC_CODE"), (0, u "I"), (0, u "LAST_IDC_CODE"), (15, u "isReport"), (0, u "(Ljava/lang/String;Ljava/lang/String;Ljava/lang/String;)Z")] 47

def k8m0 : Method := { name := "<init>", desc := "()V", sig := { parameters := [], returnType := none }, accessFlags := 2, code := none }
def k8c1 : Code := { maxStack := 2, maxLocals := 3, code := prog_29_method_7_code, exceptionTable := #[], attributes := #[] }
def k8m1 : Method := { name := "isReport", desc := "(Ljava/lang/String;Ljava/lang/String;Ljava/lang/String;)Z", sig := { parameters := [(.object "java/lang/String"), (.object "java/lang/String"), (.object "java/lang/String")], returnType := some .boolean }, accessFlags := 8, code := some k8c1 }
/-- com/example/rhythmwire/rhythmwire/idc/CommonSegments -/
def k8 : Class := { plain "com/example/rhythmwire/rhythmwire/idc/CommonSegments" (some 0) with
  accessFlags := 48
  interfaces := #[]
  cf := some (fileOf pool8 40 #[] #[{ accessFlags := 2, nameIndex := 5, descriptorIndex := 6, attributes := #[] }, { accessFlags := 8, nameIndex := 299, descriptorIndex := 300, attributes := #[] }] 48 2 #[] #[{ accessFlags := 26, nameIndex := 273, descriptorIndex := 274, attributes := #[] }, { accessFlags := 24, nameIndex := 276, descriptorIndex := 274, attributes := #[] }, { accessFlags := 24, nameIndex := 277, descriptorIndex := 274, attributes := #[] }, { accessFlags := 24, nameIndex := 278, descriptorIndex := 274, attributes := #[] }, { accessFlags := 24, nameIndex := 279, descriptorIndex := 274, attributes := #[] }, { accessFlags := 26, nameIndex := 280, descriptorIndex := 274, attributes := #[] }, { accessFlags := 26, nameIndex := 281, descriptorIndex := 282, attributes := #[] }, { accessFlags := 26, nameIndex := 283, descriptorIndex := 282, attributes := #[] }])
  fields := #[{ name := "REPORT_TYPE", type := (.object "java/lang/String"), accessFlags := 26, slot := 0, constantValue := 0 }, { name := "UNREADABLE_DATE", type := (.object "java/lang/String"), accessFlags := 24, slot := 1, constantValue := 0 }, { name := "UNREADABLE_NUMBER", type := (.object "java/lang/String"), accessFlags := 24, slot := 2, constantValue := 0 }, { name := "UNREADABLE_SET_ID", type := (.object "java/lang/String"), accessFlags := 24, slot := 3, constantValue := 0 }, { name := "UNREADABLE_INSTANCE", type := (.object "java/lang/String"), accessFlags := 24, slot := 4, constantValue := 0 }, { name := "BASE64", type := (.object "java/lang/String"), accessFlags := 26, slot := 5, constantValue := 0 }, { name := "FIRST_IDC_CODE", type := .int, accessFlags := 26, slot := 6, constantValue := 0 }, { name := "LAST_IDC_CODE", type := .int, accessFlags := 26, slot := 7, constantValue := 0 }]
  methods := #[k8m0, k8m1]
  instanceTypes := #[]
  staticTypes := #[(.object "java/lang/String"), (.object "java/lang/String"), (.object "java/lang/String"), (.object "java/lang/String"), (.object "java/lang/String"), (.object "java/lang/String"), .int, .int]
  resolved := Array.replicate 348 none
  statics := none }

def pool9 : Array CpInfo := pool [(4, .class_ 6), (1, u "java/lang/Object"), (0, u "<init>"), (0, u "()V"), (5, .class_ 16), (1, u "java/lang/StringLatin1"), (104, u "$assertionsDisabled"), (0, u "Z"), (98, .class_ 223), (1, u "java/lang/StringLatin1$LinesSpliterator"), (57, u "equals"), (0, u "([B[B)Z"), (107, .class_ 391), (0, u "java/lang/StringLatin1$CharsSpliterator")] 3

def k9m0 : Method := { name := "<init>", desc := "()V", sig := { parameters := [], returnType := none }, accessFlags := 0, code := none }
def k9c1 : Code := { maxStack := 3, maxLocals := 3, code := jdk_43_method_13_code, exceptionTable := #[], attributes := #[] }
def k9m1 : Method := { name := "equals", desc := "([B[B)Z", sig := { parameters := [(.array .byte), (.array .byte)], returnType := some .boolean }, accessFlags := 9, code := some k9c1 }
/-- java/lang/StringLatin1 -/
def k9 : Class := { plain "java/lang/StringLatin1" (some 0) with
  accessFlags := 48
  interfaces := #[]
  cf := some (fileOf pool9 14 #[.nestMembers #[390, 221]] #[{ accessFlags := 0, nameIndex := 7, descriptorIndex := 8, attributes := #[] }, { accessFlags := 9, nameIndex := 281, descriptorIndex := 282, attributes := #[] }] 48 4 #[] #[{ accessFlags := 4120, nameIndex := 121, descriptorIndex := 122, attributes := #[] }])
  fields := #[{ name := "$assertionsDisabled", type := .boolean, accessFlags := 4120, slot := 0, constantValue := 0 }]
  methods := #[k9m0, k9m1]
  instanceTypes := #[]
  staticTypes := #[.boolean]
  resolved := Array.replicate 395 none
  statics := none }

def pool10 : Array CpInfo := pool [(6, .class_ 8), (1, u "java/lang/Object"), (0, u "<init>"), (0, u "()V"), (1, .class_ 14), (1, u "java/lang/StringUTF16"), (31, u "$assertionsDisabled"), (0, u "Z"), (13, u "HI_BYTE_SHIFT"), (0, u "I"), (2, u "LO_BYTE_SHIFT"), (49, .methodref 12 116), (0, .nameAndType 117 118), (0, u "compress"), (0, u "([CI[BII)I"), (3, u "([CII)[B"), (138, u "coderFromArrayLen"), (0, u "([BI)B"), (106, .class_ 371), (1, u "java/lang/StringUTF16$LinesSpliterator"), (58, u "MAX_LENGTH"), (196, .class_ 628), (0, u "java/lang/StringUTF16$CodePointsSpliterator"), (0, .class_ 630), (0, u "java/lang/StringUTF16$CharsSpliterator")] 4

def k10m0 : Method := { name := "<init>", desc := "()V", sig := { parameters := [], returnType := none }, accessFlags := 0, code := none }
def k10c1 : Code := { maxStack := 2, maxLocals := 2, code := jdk_52_method_15_code, exceptionTable := #[], attributes := #[] }
def k10m1 : Method := { name := "coderFromArrayLen", desc := "([BI)B", sig := { parameters := [(.array .byte), .int], returnType := some .byte }, accessFlags := 8, code := some k10c1 }
def k10c2 : Code := { maxStack := 5, maxLocals := 6, code := jdk_52_method_16_code, exceptionTable := #[], attributes := #[] }
def k10m2 : Method := { name := "compress", desc := "([CII)[B", sig := { parameters := [(.array .char), .int, .int], returnType := some (.array .byte) }, accessFlags := 9, code := some k10c2 }
def k10c3 : Code := { maxStack := 3, maxLocals := 7, code := jdk_52_method_21_code, exceptionTable := #[], attributes := #[] }
def k10m3 : Method := { name := "compress", desc := "([CI[BII)I", sig := { parameters := [(.array .char), .int, (.array .byte), .int, .int], returnType := some .int }, accessFlags := 9, code := some k10c3 }
/-- java/lang/StringUTF16 -/
def k10 : Class := { plain "java/lang/StringUTF16" (some 0) with
  accessFlags := 48
  interfaces := #[]
  cf := some (fileOf pool10 12 #[.nestMembers #[627, 629, 369]] #[{ accessFlags := 0, nameIndex := 9, descriptorIndex := 10, attributes := #[] }, { accessFlags := 8, nameIndex := 261, descriptorIndex := 262, attributes := #[] }, { accessFlags := 9, nameIndex := 117, descriptorIndex := 122, attributes := #[] }, { accessFlags := 9, nameIndex := 117, descriptorIndex := 118, attributes := #[] }] 48 6 #[] #[{ accessFlags := 26, nameIndex := 61, descriptorIndex := 62, attributes := #[] }, { accessFlags := 26, nameIndex := 65, descriptorIndex := 62, attributes := #[] }, { accessFlags := 24, nameIndex := 430, descriptorIndex := 62, attributes := #[] }, { accessFlags := 4120, nameIndex := 46, descriptorIndex := 47, attributes := #[] }])
  fields := #[{ name := "HI_BYTE_SHIFT", type := .int, accessFlags := 26, slot := 0, constantValue := 0 }, { name := "LO_BYTE_SHIFT", type := .int, accessFlags := 26, slot := 1, constantValue := 0 }, { name := "MAX_LENGTH", type := .int, accessFlags := 24, slot := 2, constantValue := 0 }, { name := "$assertionsDisabled", type := .boolean, accessFlags := 4120, slot := 3, constantValue := 0 }]
  methods := #[k10m0, k10m1, k10m2, k10m3]
  instanceTypes := #[]
  staticTypes := #[.int, .int, .int, .boolean]
  resolved := Array.replicate 635 none
  statics := none }

def pool11 : Array CpInfo := pool [(2, .class_ 4), (1, u "java/lang/Object"), (0, u "<init>"), (0, u "()V"), (17, .class_ 26), (1, u "jdk/internal/util/Preconditions"), (28, .class_ 56), (0, u "jdk/internal/util/Preconditions$4"), (57, .class_ 115), (0, u "jdk/internal/util/Preconditions$1"), (7, u "SIOOBE_FORMATTER"), (0, u "Ljava/util/function/BiFunction;"), (0, .class_ 126), (0, u "jdk/internal/util/Preconditions$2"), (3, u "AIOOBE_FORMATTER"), (0, .class_ 132), (0, u "jdk/internal/util/Preconditions$3"), (3, u "IOOBE_FORMATTER")] 57

def k11m0 : Method := { name := "<init>", desc := "()V", sig := { parameters := [], returnType := none }, accessFlags := 1, code := none }
/-- jdk/internal/util/Preconditions -/
def k11 : Class := { plain "jdk/internal/util/Preconditions" (some 0) with
  accessFlags := 33
  interfaces := #[]
  cf := some (fileOf pool11 24 #[.nestMembers #[55, 131, 125, 114]] #[{ accessFlags := 1, nameIndex := 5, descriptorIndex := 6, attributes := #[] }] 33 2 #[] #[{ accessFlags := 25, nameIndex := 123, descriptorIndex := 124, attributes := #[] }, { accessFlags := 25, nameIndex := 130, descriptorIndex := 124, attributes := #[] }, { accessFlags := 25, nameIndex := 136, descriptorIndex := 124, attributes := #[] }])
  fields := #[{ name := "SIOOBE_FORMATTER", type := (.object "java/util/function/BiFunction"), accessFlags := 25, slot := 0, constantValue := 0 }, { name := "AIOOBE_FORMATTER", type := (.object "java/util/function/BiFunction"), accessFlags := 25, slot := 1, constantValue := 0 }, { name := "IOOBE_FORMATTER", type := (.object "java/util/function/BiFunction"), accessFlags := 25, slot := 2, constantValue := 0 }]
  methods := #[k11m0]
  instanceTypes := #[]
  staticTypes := #[(.object "java/util/function/BiFunction"), (.object "java/util/function/BiFunction"), (.object "java/util/function/BiFunction")]
  resolved := Array.replicate 194 none
  statics := some 1 }

def pool12 : Array CpInfo := pool [(9, u "<init>"), (6, .class_ 18), (1, u "java/lang/Object"), (0, u "()V"), (1, .class_ 23), (1, u "jdk/internal/util/ArraysSupport"), (0, u "LOG2_ARRAY_LONG_INDEX_SCALE"), (0, u "I"), (2, u "U"), (0, u "Ljdk/internal/misc/Unsafe;"), (8, u "BIG_ENDIAN"), (0, u "Z"), (8, u "LOG2_BYTE_BIT_SIZE"), (4, u "LOG2_ARRAY_INT_INDEX_SCALE"), (54, u "JLA"), (0, u "Ljdk/internal/access/JavaLangAccess;"), (11, u "LOG2_ARRAY_BOOLEAN_INDEX_SCALE"), (9, u "LOG2_ARRAY_BYTE_INDEX_SCALE"), (5, u "LOG2_ARRAY_CHAR_INDEX_SCALE"), (5, u "LOG2_ARRAY_SHORT_INDEX_SCALE"), (18, u "LOG2_ARRAY_FLOAT_INDEX_SCALE"), (24, u "LOG2_ARRAY_DOUBLE_INDEX_SCALE"), (89, u "T_BOOLEAN"), (2, u "T_CHAR"), (1, u "T_FLOAT"), (1, u "T_DOUBLE"), (1, u "T_BYTE"), (1, u "T_SHORT"), (1, u "T_INT"), (1, u "T_LONG"), (1, u "SOFT_MAX_ARRAY_LENGTH")] 83

def k12m0 : Method := { name := "<init>", desc := "()V", sig := { parameters := [], returnType := none }, accessFlags := 2, code := none }
/-- jdk/internal/util/ArraysSupport -/
def k12 : Class := { plain "jdk/internal/util/ArraysSupport" (some 0) with
  accessFlags := 33
  interfaces := #[]
  cf := some (fileOf pool12 21 #[] #[{ accessFlags := 2, nameIndex := 9, descriptorIndex := 19, attributes := #[] }] 33 16 #[] #[{ accessFlags := 24, nameIndex := 28, descriptorIndex := 29, attributes := #[] }, { accessFlags := 26, nameIndex := 38, descriptorIndex := 39, attributes := #[] }, { accessFlags := 25, nameIndex := 121, descriptorIndex := 25, attributes := #[] }, { accessFlags := 25, nameIndex := 131, descriptorIndex := 25, attributes := #[] }, { accessFlags := 25, nameIndex := 137, descriptorIndex := 25, attributes := #[] }, { accessFlags := 25, nameIndex := 143, descriptorIndex := 25, attributes := #[] }, { accessFlags := 25, nameIndex := 53, descriptorIndex := 25, attributes := #[] }, { accessFlags := 25, nameIndex := 24, descriptorIndex := 25, attributes := #[] }, { accessFlags := 25, nameIndex := 162, descriptorIndex := 25, attributes := #[] }, { accessFlags := 25, nameIndex := 187, descriptorIndex := 25, attributes := #[] }, { accessFlags := 26, nameIndex := 48, descriptorIndex := 25, attributes := #[] }, { accessFlags := 25, nameIndex := 277, descriptorIndex := 25, attributes := #[] }, { accessFlags := 25, nameIndex := 280, descriptorIndex := 25, attributes := #[] }, { accessFlags := 25, nameIndex := 282, descriptorIndex := 25, attributes := #[] }, { accessFlags := 25, nameIndex := 284, descriptorIndex := 25, attributes := #[] }, { accessFlags := 25, nameIndex := 286, descriptorIndex := 25, attributes := #[] }, { accessFlags := 25, nameIndex := 288, descriptorIndex := 25, attributes := #[] }, { accessFlags := 25, nameIndex := 290, descriptorIndex := 25, attributes := #[] }, { accessFlags := 25, nameIndex := 292, descriptorIndex := 25, attributes := #[] }, { accessFlags := 26, nameIndex := 108, descriptorIndex := 109, attributes := #[] }, { accessFlags := 25, nameIndex := 294, descriptorIndex := 25, attributes := #[] }])
  fields := #[{ name := "U", type := (.object "jdk/internal/misc/Unsafe"), accessFlags := 24, slot := 0, constantValue := 0 }, { name := "BIG_ENDIAN", type := .boolean, accessFlags := 26, slot := 1, constantValue := 0 }, { name := "LOG2_ARRAY_BOOLEAN_INDEX_SCALE", type := .int, accessFlags := 25, slot := 2, constantValue := 0 }, { name := "LOG2_ARRAY_BYTE_INDEX_SCALE", type := .int, accessFlags := 25, slot := 3, constantValue := 0 }, { name := "LOG2_ARRAY_CHAR_INDEX_SCALE", type := .int, accessFlags := 25, slot := 4, constantValue := 0 }, { name := "LOG2_ARRAY_SHORT_INDEX_SCALE", type := .int, accessFlags := 25, slot := 5, constantValue := 0 }, { name := "LOG2_ARRAY_INT_INDEX_SCALE", type := .int, accessFlags := 25, slot := 6, constantValue := 0 }, { name := "LOG2_ARRAY_LONG_INDEX_SCALE", type := .int, accessFlags := 25, slot := 7, constantValue := 0 }, { name := "LOG2_ARRAY_FLOAT_INDEX_SCALE", type := .int, accessFlags := 25, slot := 8, constantValue := 0 }, { name := "LOG2_ARRAY_DOUBLE_INDEX_SCALE", type := .int, accessFlags := 25, slot := 9, constantValue := 0 }, { name := "LOG2_BYTE_BIT_SIZE", type := .int, accessFlags := 26, slot := 10, constantValue := 0 }, { name := "T_BOOLEAN", type := .int, accessFlags := 25, slot := 11, constantValue := 0 }, { name := "T_CHAR", type := .int, accessFlags := 25, slot := 12, constantValue := 0 }, { name := "T_FLOAT", type := .int, accessFlags := 25, slot := 13, constantValue := 0 }, { name := "T_DOUBLE", type := .int, accessFlags := 25, slot := 14, constantValue := 0 }, { name := "T_BYTE", type := .int, accessFlags := 25, slot := 15, constantValue := 0 }, { name := "T_SHORT", type := .int, accessFlags := 25, slot := 16, constantValue := 0 }, { name := "T_INT", type := .int, accessFlags := 25, slot := 17, constantValue := 0 }, { name := "T_LONG", type := .int, accessFlags := 25, slot := 18, constantValue := 0 }, { name := "JLA", type := (.object "jdk/internal/access/JavaLangAccess"), accessFlags := 26, slot := 19, constantValue := 0 }, { name := "SOFT_MAX_ARRAY_LENGTH", type := .int, accessFlags := 25, slot := 20, constantValue := 0 }]
  methods := #[k12m0]
  instanceTypes := #[]
  staticTypes := #[(.object "jdk/internal/misc/Unsafe"), .boolean, .int, .int, .int, .int, .int, .int, .int, .int, .int, .int, .int, .int, .int, .int, .int, .int, .int, (.object "jdk/internal/access/JavaLangAccess"), .int]
  resolved := Array.replicate 378 none
  statics := none }

def pool13 : Array CpInfo := pool [(1, u "java/lang/Cloneable"), (0, .class_ 1), (0, u "java/lang/Object"), (0, .class_ 3)] 3

/-- java/lang/Cloneable -/
def k13 : Class := { plain "java/lang/Cloneable" (some 0) with
  accessFlags := 1537
  interfaces := #[]
  cf := some (fileOf pool13 2 #[] #[] 1537 4 #[] #[])
  fields := #[]
  methods := #[]
  instanceTypes := #[]
  staticTypes := #[]
  resolved := Array.replicate 8 none
  statics := none }

/-- the primitive byte -/
def k14 : Class := { plain "byte" none with kind := .primitive 'B', accessFlags := 0x411 }
/-- [B -/
def k15 : Class := { plain "[B" (some 0) with kind := .array 14 .byte, interfaces := #[13, 2], accessFlags := 1041 }

/-- the primitive char -/
def k16 : Class := { plain "char" none with kind := .primitive 'C', accessFlags := 0x411 }
/-- [C -/
def k17 : Class := { plain "[C" (some 0) with kind := .array 16 .char, interfaces := #[13, 2], accessFlags := 1041 }

/-- the primitive int -/
def k18 : Class := { plain "int" none with kind := .primitive 'I', accessFlags := 0x411 }
/-- [I -/
def k19 : Class := { plain "[I" (some 0) with kind := .array 18 .int, interfaces := #[13, 2], accessFlags := 1041 }

def heap : Heap := #[{ cls := 7, slots := #[.long 0, .int 1, .null, .int 0, .null, .int 0, .int 0], vm := .statics 7 },
  { cls := 11, slots := #[.null, .null, .null], vm := .statics 11 }]
def classes : Array Class := #[k0, k1, k2, k3, k4, k5, k6, k7, k8, k9, k10, k11, k12, k13, k14, k15, k16, k17, k18, k19]
def interned : List (Array UInt16 × Addr) := []
def slotsUsed : Nat := 10
def theMethod : MethodId := ⟨1, 3⟩
def args0 : Array Value := #[.int 2, .int 0, .int 1, .int 2]
def aboutOver (below : List Frame) : State where
  vm := { classes := classes, interned := interned.toArray }
  heap := heap
  slotsUsed := slotsUsed
  threads := #[{ frames := .invoking theMethod args0 :: below }]
def below0 : List Frame := [.native { method := ⟨0, 0⟩, args := #[] }]
def about1 : State := aboutOver below0
def p0 : Program := .bare "" "" ""
def e0 : Env := launch0.env 0 0 0
theorem w_frames : about1.frames = Frame.invoking theMethod args0 :: below0 := rfl
set_option maxRecDepth 65536 in
theorem w_args : argsFit about1.vm theMethod args0 = true := by decide +kernel
set_option maxRecDepth 65536 in
theorem w_heap : heapFits about1 = true := by decide +kernel
set_option maxRecDepth 65536 in
theorem w_runnable : about1.curStatus? = some .runnable := by decide +kernel
set_option maxRecDepth 65536 in
theorem w_alone : about1.alone = true := by decide +kernel
set_option maxRecDepth 65536 in
theorem w_named : about1.methodNamed? x = some theMethod := by decide +kernel
set_option maxRecDepth 65536 in
theorem w_hears : about1.hears theMethod below0 = true := by decide +kernel
set_option maxRecDepth 65536 in
theorem w_ripe : about1.ripe theMethod args0 below0 = true := by decide +kernel
theorem w_running : about1.status = .running := rfl
set_option maxRecDepth 65536 in
theorem w_room : about1.hasRoom e0.platform room_1 = true :=
  launch0.hasRoom_least _ room_1 (by decide +kernel) (by decide +kernel) (by decide +kernel) (by decide +kernel) (by decide +kernel) (by decide +kernel)
theorem allAtoms_all (ts : List Jvm.Cond) (a : Array Jvm.Value) (st : Jvm.State) : (allAtoms ts).before a st = ts.all (fun c => c.before a st) := by
  induction ts with
  | nil => rfl
  | cons c t ih =>
    show (Jvm.Cond.and c (allAtoms t)).before a st = _
    rw [Jvm.Cond.before_and, ih, List.all_cons]
def words1 : List Jvm.Cond := Jvm.Cond.code x code maxLocals ret :: tables_1
/-- a 'code' word, met by the world's own term for the bytes: nothing is compared byte by byte -/
theorem code_word {y : MethodName} {bytes : ByteArray} {mx : Nat} {rt : Option FieldType} {a : Array Value} {s : State} {m : MethodId} {meth : Method} {c : Code} (h1 : s.methodNamed? y = some m) (h2 : s.vm.method? m = some meth) (h3 : meth.code = some c) (h4 : c.code = bytes)
    (h5 : (c.maxLocals == mx && c.exceptionTable.isEmpty && decide (c.maxStack ≤ mostOperands) && decide (meth.sig.returnType = rt) && !meth.locks && decide (parseMethodDescriptor y.desc = some meth.sig)) = true) : (Jvm.Cond.code y bytes mx rt).before a s = true := by
  simp only [Bool.and_eq_true, beq_iff_eq, Bool.not_eq_true', decide_eq_true_eq] at h5
  obtain ⟨⟨⟨⟨⟨g1, g2⟩, g3⟩, g4⟩, g5⟩, g6⟩ := h5
  simp [Cond.before, Cond.holds, Cond.value, h1, h2, h3, h4, g1, g2, g3, g4, g5, g6]
def isCode : Jvm.Cond → Bool
  | .code _ _ _ _ => true
  | _ => false
theorem all_split {L : List Jvm.Cond} {P : Jvm.Cond → Bool} (h1 : L.all (fun c => isCode c || P c) = true) (h2 : ∀ c ∈ L.filter isCode, P c = true) : L.all P = true := by
  refine List.all_eq_true.mpr fun c hc => ?_
  have h := List.all_eq_true.mp h1 c hc
  rcases Bool.eq_false_or_eq_true (isCode c) with hi | hi
  · exact h2 c (List.mem_filter.mpr ⟨hc, hi⟩)
  · simpa [hi] using h
set_option maxRecDepth 65536 in
theorem w_c0 : (Jvm.Cond.code x code maxLocals ret).before args0 about1 = true := code_word (m := ⟨1, 3⟩) (meth := k1m3) (c := k1c3) (by decide +kernel) rfl rfl rfl (by decide +kernel)
set_option maxRecDepth 65536 in
theorem w_c1 : (Jvm.Cond.code ({ cls := "com/example/rhythmwire/rhythmwire/idc/CommonSegmentsIsReportPinLaw", name := "ch", desc := "(IZ)C" } : Jvm.MethodName) method_2_code (2 : Nat) (Option.some Jvm.ClassFile.FieldType.char)).before args0 about1 = true := code_word (m := ⟨1, 1⟩) (meth := k1m1) (c := k1c1) (by decide +kernel) rfl rfl rfl (by decide +kernel)
set_option maxRecDepth 65536 in
theorem w_c2 : (Jvm.Cond.code ({ cls := "com/example/rhythmwire/rhythmwire/idc/CommonSegmentsIsReportPinLaw", name := "str", desc := "(ICCC)Ljava/lang/String;" } : Jvm.MethodName) method_3_code (4 : Nat) (Option.some (Jvm.ClassFile.FieldType.object "java/lang/String"))).before args0 about1 = true := code_word (m := ⟨1, 2⟩) (meth := k1m2) (c := k1c2) (by decide +kernel) rfl rfl rfl (by decide +kernel)
set_option maxRecDepth 65536 in
theorem w_c3 : (Jvm.Cond.code ({ cls := "java/lang/String", name := "<init>", desc := "([C)V" } : Jvm.MethodName) jdk_42_method_3_code (2 : Nat) (Option.none : Option Jvm.ClassFile.FieldType)).before args0 about1 = true := code_word (m := ⟨7, 1⟩) (meth := k7m1) (c := k7c1) (by decide +kernel) rfl rfl rfl (by decide +kernel)
set_option maxRecDepth 65536 in
theorem w_c4 : (Jvm.Cond.code ({ cls := "java/lang/String", name := "<init>", desc := "([CIILjava/lang/Void;)V" } : Jvm.MethodName) jdk_42_method_149_code (6 : Nat) (Option.none : Option Jvm.ClassFile.FieldType)).before args0 about1 = true := code_word (m := ⟨7, 3⟩) (meth := k7m3) (c := k7c3) (by decide +kernel) rfl rfl rfl (by decide +kernel)
set_option maxRecDepth 65536 in
theorem w_c5 : (Jvm.Cond.code ({ cls := "java/lang/Object", name := "<init>", desc := "()V" } : Jvm.MethodName) object_method_1_code (1 : Nat) (Option.none : Option Jvm.ClassFile.FieldType)).before args0 about1 = true := code_word (m := ⟨0, 0⟩) (meth := k0m0) (c := k0c0) (by decide +kernel) rfl rfl rfl (by decide +kernel)
set_option maxRecDepth 65536 in
theorem w_c6 : (Jvm.Cond.code ({ cls := "com/example/rhythmwire/rhythmwire/idc/CommonSegments", name := "isReport", desc := "(Ljava/lang/String;Ljava/lang/String;Ljava/lang/String;)Z" } : Jvm.MethodName) prog_29_method_7_code (3 : Nat) (Option.some Jvm.ClassFile.FieldType.boolean)).before args0 about1 = true := code_word (m := ⟨8, 1⟩) (meth := k8m1) (c := k8c1) (by decide +kernel) rfl rfl rfl (by decide +kernel)
set_option maxRecDepth 65536 in
theorem w_c7 : (Jvm.Cond.code ({ cls := "java/lang/String", name := "equals", desc := "(Ljava/lang/Object;)Z" } : Jvm.MethodName) jdk_42_method_66_code (3 : Nat) (Option.some Jvm.ClassFile.FieldType.boolean)).before args0 about1 = true := code_word (m := ⟨7, 2⟩) (meth := k7m2) (c := k7c2) (by decide +kernel) rfl rfl rfl (by decide +kernel)
set_option maxRecDepth 65536 in
theorem w_c8 : (Jvm.Cond.code ({ cls := "java/lang/StringLatin1", name := "equals", desc := "([B[B)Z" } : Jvm.MethodName) jdk_43_method_13_code (3 : Nat) (Option.some Jvm.ClassFile.FieldType.boolean)).before args0 about1 = true := code_word (m := ⟨9, 1⟩) (meth := k9m1) (c := k9c1) (by decide +kernel) rfl rfl rfl (by decide +kernel)
set_option maxRecDepth 65536 in
theorem w_c9 : (Jvm.Cond.code ({ cls := "java/lang/StringUTF16", name := "compress", desc := "([CII)[B" } : Jvm.MethodName) jdk_52_method_16_code (6 : Nat) (Option.some (Jvm.ClassFile.FieldType.array Jvm.ClassFile.FieldType.byte))).before args0 about1 = true := code_word (m := ⟨10, 2⟩) (meth := k10m2) (c := k10c2) (by decide +kernel) rfl rfl rfl (by decide +kernel)
set_option maxRecDepth 65536 in
theorem w_c10 : (Jvm.Cond.code ({ cls := "java/lang/StringUTF16", name := "compress", desc := "([CI[BII)I" } : Jvm.MethodName) jdk_52_method_21_code (7 : Nat) (Option.some Jvm.ClassFile.FieldType.int)).before args0 about1 = true := code_word (m := ⟨10, 3⟩) (meth := k10m3) (c := k10c3) (by decide +kernel) rfl rfl rfl (by decide +kernel)
set_option maxRecDepth 65536 in
theorem w_c11 : (Jvm.Cond.code ({ cls := "java/lang/StringUTF16", name := "coderFromArrayLen", desc := "([BI)B" } : Jvm.MethodName) jdk_52_method_15_code (2 : Nat) (Option.some Jvm.ClassFile.FieldType.byte)).before args0 about1 = true := code_word (m := ⟨10, 1⟩) (meth := k10m1) (c := k10c1) (by decide +kernel) rfl rfl rfl (by decide +kernel)
def codes1 : List Jvm.Cond := [Jvm.Cond.code x code maxLocals ret, Jvm.Cond.code ({ cls := "com/example/rhythmwire/rhythmwire/idc/CommonSegmentsIsReportPinLaw", name := "ch", desc := "(IZ)C" } : Jvm.MethodName) method_2_code (2 : Nat) (Option.some Jvm.ClassFile.FieldType.char), Jvm.Cond.code ({ cls := "com/example/rhythmwire/rhythmwire/idc/CommonSegmentsIsReportPinLaw", name := "str", desc := "(ICCC)Ljava/lang/String;" } : Jvm.MethodName) method_3_code (4 : Nat) (Option.some (Jvm.ClassFile.FieldType.object "java/lang/String")), Jvm.Cond.code ({ cls := "java/lang/String", name := "<init>", desc := "([C)V" } : Jvm.MethodName) jdk_42_method_3_code (2 : Nat) (Option.none : Option Jvm.ClassFile.FieldType), Jvm.Cond.code ({ cls := "java/lang/String", name := "<init>", desc := "([CIILjava/lang/Void;)V" } : Jvm.MethodName) jdk_42_method_149_code (6 : Nat) (Option.none : Option Jvm.ClassFile.FieldType), Jvm.Cond.code ({ cls := "java/lang/Object", name := "<init>", desc := "()V" } : Jvm.MethodName) object_method_1_code (1 : Nat) (Option.none : Option Jvm.ClassFile.FieldType), Jvm.Cond.code ({ cls := "com/example/rhythmwire/rhythmwire/idc/CommonSegments", name := "isReport", desc := "(Ljava/lang/String;Ljava/lang/String;Ljava/lang/String;)Z" } : Jvm.MethodName) prog_29_method_7_code (3 : Nat) (Option.some Jvm.ClassFile.FieldType.boolean), Jvm.Cond.code ({ cls := "java/lang/String", name := "equals", desc := "(Ljava/lang/Object;)Z" } : Jvm.MethodName) jdk_42_method_66_code (3 : Nat) (Option.some Jvm.ClassFile.FieldType.boolean), Jvm.Cond.code ({ cls := "java/lang/StringLatin1", name := "equals", desc := "([B[B)Z" } : Jvm.MethodName) jdk_43_method_13_code (3 : Nat) (Option.some Jvm.ClassFile.FieldType.boolean), Jvm.Cond.code ({ cls := "java/lang/StringUTF16", name := "compress", desc := "([CII)[B" } : Jvm.MethodName) jdk_52_method_16_code (6 : Nat) (Option.some (Jvm.ClassFile.FieldType.array Jvm.ClassFile.FieldType.byte)), Jvm.Cond.code ({ cls := "java/lang/StringUTF16", name := "compress", desc := "([CI[BII)I" } : Jvm.MethodName) jdk_52_method_21_code (7 : Nat) (Option.some Jvm.ClassFile.FieldType.int), Jvm.Cond.code ({ cls := "java/lang/StringUTF16", name := "coderFromArrayLen", desc := "([BI)B" } : Jvm.MethodName) jdk_52_method_15_code (2 : Nat) (Option.some Jvm.ClassFile.FieldType.byte)]
set_option maxRecDepth 65536 in
theorem codes_eq : words1.filter isCode = codes1 := rfl
theorem w_codes : ∀ c ∈ words1.filter isCode, c.before args0 about1 = true := by
  rw [codes_eq]
  intro c hc
  simp only [codes1, List.mem_cons, List.not_mem_nil, or_false] at hc
  rcases hc with rfl | rfl | rfl | rfl | rfl | rfl | rfl | rfl | rfl | rfl | rfl | rfl
  · exact w_c0
  · exact w_c1
  · exact w_c2
  · exact w_c3
  · exact w_c4
  · exact w_c5
  · exact w_c6
  · exact w_c7
  · exact w_c8
  · exact w_c9
  · exact w_c10
  · exact w_c11
set_option maxRecDepth 65536 in
theorem w_t1 : (words1.take 24).all (fun c => isCode c || c.before args0 about1) = true := by decide +kernel
set_option maxRecDepth 65536 in
theorem w_t2 : ((words1.drop 24).take 24).all (fun c => isCode c || c.before args0 about1) = true := by decide +kernel
set_option maxRecDepth 65536 in
theorem w_t3 : ((words1.drop 24).drop 24).all (fun c => isCode c || c.before args0 about1) = true := by decide +kernel
theorem w_tables : (allAtoms (Jvm.Cond.code x code maxLocals ret :: tables_1)).before args0 about1 = true := by
  rw [allAtoms_all]
  show words1.all (fun c => c.before args0 about1) = true
  refine all_split ?_ w_codes
  rw [← List.take_append_drop 24 words1, List.all_append, w_t1, ← List.take_append_drop 24 (words1.drop 24), List.all_append, w_t2, w_t3]
  rfl
set_option maxRecDepth 65536 in
theorem w_rest : rest_1_c.before args0 about1 = true := by decide +kernel
set_option maxRecDepth 65536 in
theorem w_case : (Jvm.Cond.and given_1 narrow_1).before args0 about1 = true := by decide +kernel
set_option maxRecDepth 65536 in
theorem w_consts : constsHeld consts_1 about1 := Jvm.Lit.constsHeldB_iff.mp (by decide +kernel)
theorem w_applies : (headSpec (Jvm.Cond.code x code maxLocals ret :: tables_1) room_1).applies x e0.platform about1 = true :=
  (Spec.applies_iff w_frames).mpr ⟨w_running, w_runnable, w_alone, w_named, w_hears, w_ripe, w_room, w_tables⟩
theorem atStart : AtStart classFile x code maxLocals ret World_1 tables_1 room_1 Calls_1 rest_1 Pre_1 launch0 p0 e0 about1 theMethod args0 below0 :=
  ⟨lists_1, trivial, launch0.admits_env _ _ _, launch0.least_env, fairChoices_fair.cas, fairChoices_fair.clock, w_frames, w_args, w_heap, w_applies, ⟨w_consts, trivial⟩, w_rest, w_case⟩
end start1
theorem witness_1 : WitnessClaimed_1 := ⟨start1.p0, start1.e0, start1.about1, start1.theMethod, start1.args0, start1.below0, start1.atStart⟩
end Jvm.Pilot.@@N@@
