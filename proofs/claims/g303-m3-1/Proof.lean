import JvmDerived
import JvmDerived.Pilot.@@N@@Statement
import JvmDerived.Pilot.@@N@@Code
set_option linter.unusedVariables false
set_option linter.unusedSimpArgs false
namespace Jvm.RoadKit
open Sem ClassFile Op Lib Jvm.Stand Jvm.Free Jvm.LawKit
section New
variable {p : Program} {l : Launch} {e : Env} {R : Room} {s : State} {m : MethodId} {args : Array Value} {below : List Frame} {meth : Method} {c : Code} {T : State} {locs : List Loc} {cells slots : Nat}
theorem retI (X : Stand p l e R s m args below meth c T locs cells slots) (hx : p.tables.exec = Jvm.exec) {pc : Nat} {Ls : Array Slot} {z : Int32} {rest : List Value} (hret : meth.sig.returnType = some .int) (hd : decode c.code pc = .ok (.ireturn, 1)) {fs : List Frame}
    (hl : ∀ (f : JFrame) (acts : List Action), f.method = m → f.locked = none → f.entered = [] → (doReturn e (T.setTop f) acts (some (.int z))).1 = T.setFrames fs) : Steps p.tables e below (T.setTop (mkF m pc Ls (.int z :: rest))) (T.setFrames fs) := by
  have hm' : T.vm.method? m = some meth := X.method'
  have hn : narrow .int (.int z) = .int z := rfl
  show Steps p.tables e below (T.setTop { method := m, pc := pc, locals := Ls, stack := _ :: rest, locked := none }) _
  jvm_step X.here [X.here.top, hx, hd, hm', hret, hn]
  first | (intro acts; rw [hl _ acts rfl rfl rfl]) | rw [hl _ _ rfl rfl rfl]
  exact Steps.refl _
/-- from the state A the body comes to its end, and what it leaves is Q's -/
def Go (tb : Tables) (e : Env) (below : List Frame) (s : State) (Q : Option Value → Heap → List Loc → Prop) (k n : Nat) (A : State) : Prop :=
  ∃ s₂ o, Steps tb e below A s₂ ∧ s₂.status = .running ∧ Ended s₂ below o ∧ ∃ v L, o = .returned v ∧ Q v s₂.heap L ∧ FrameEnd s o s₂ L k n
theorem Go.on {tb : Tables} {Q : Option Value → Heap → List Loc → Prop} {k n : Nat} {A B : State} (h : ∀ t, Steps tb e below B t → Steps tb e below A t) (g : Go tb e below s Q k n B) : Go tb e below s Q k n A := by
  obtain ⟨s₂, o, h1, h2⟩ := g
  exact ⟨s₂, o, h _ h1, h2⟩
theorem Go.via {tb : Tables} {Q : Option Value → Heap → List Loc → Prop} {k n : Nat} {A B : State} (h : Steps tb e below A B) (g : Go tb e below s Q k n B) : Go tb e below s Q k n A := by
  obtain ⟨s₂, o, h1, h2⟩ := g
  exact ⟨s₂, o, h.trans h1, h2⟩
theorem Go.retN (X : Stand p l e R s m args below meth c T locs cells slots) (hx : p.tables.exec = Jvm.exec) (hlk : meth.locks = false) {Q : Option Value → Heap → List Loc → Prop} {k n : Nat} {pc : Nat} {Ls : Array Slot} {z : Int32} {t : FieldType} {rest : List Value} (hret : meth.sig.returnType = some t) (ht : t = .boolean ∨ t = .byte ∨ t = .char ∨ t = .short)
    (hd : decode c.code pc = .ok (.ireturn, 1)) (hk : cells ≤ k) (hn : slots ≤ n) {h : Heap} (eT : T.heap = h) (q : Q (some (.int (nar t z))) h locs) : Go p.tables e below s Q k n (T.setTop (mkF m pc Ls (.int z :: rest))) := by
  obtain ⟨fs, hr, hrun, hended, hW, hsame⟩ := X.leave (v := some (.int (nar t z))) (fun h => by rw [hret] at h; cases h) hlk
  subst eT
  exact ⟨_, _, Jvm.RoadKit.retN X hx hret ht hd hr, hrun, hended, _, _, rfl, q, ⟨_, rfl⟩, hW, hsame.mono hk hn⟩
theorem Go.retI (X : Stand p l e R s m args below meth c T locs cells slots) (hx : p.tables.exec = Jvm.exec) (hlk : meth.locks = false) {Q : Option Value → Heap → List Loc → Prop} {k n : Nat} {pc : Nat} {Ls : Array Slot} {z : Int32} {rest : List Value} (hret : meth.sig.returnType = some .int)
    (hd : decode c.code pc = .ok (.ireturn, 1)) (hk : cells ≤ k) (hn : slots ≤ n) {h : Heap} (eT : T.heap = h) (q : Q (some (.int z)) h locs) : Go p.tables e below s Q k n (T.setTop (mkF m pc Ls (.int z :: rest))) := by
  obtain ⟨fs, hr, hrun, hended, hW, hsame⟩ := X.leave (v := some (.int z)) (fun h => by rw [hret] at h; cases h) hlk
  subst eT
  exact ⟨_, _, Jvm.RoadKit.retI X hx hret hd hr, hrun, hended, _, _, rfl, q, ⟨_, rfl⟩, hW, hsame.mono hk hn⟩
theorem Go.retJ (X : Stand p l e R s m args below meth c T locs cells slots) (hx : p.tables.exec = Jvm.exec) (hlk : meth.locks = false) {Q : Option Value → Heap → List Loc → Prop} {k n : Nat} {pc : Nat} {Ls : Array Slot} {z : Int64} (hret : meth.sig.returnType = some .long)
    (hd : decode c.code pc = .ok (.lreturn, 1)) (hk : cells ≤ k) (hn : slots ≤ n) {h : Heap} (eT : T.heap = h) (q : Q (some (.long z)) h locs) : Go p.tables e below s Q k n (T.setTop (mkF m pc Ls [.long z])) := by
  obtain ⟨fs, hr, hrun, hended, hW, hsame⟩ := X.leave (v := some (.long z)) (fun h => by rw [hret] at h; cases h) hlk
  subst eT
  exact ⟨_, _, X.lreturnOut hx hret hd hr, hrun, hended, _, _, rfl, q, ⟨_, rfl⟩, hW, hsame.mono hk hn⟩
theorem Go.retA (X : Stand p l e R s m args below meth c T locs cells slots) (hx : p.tables.exec = Jvm.exec) (hlk : meth.locks = false) {Q : Option Value → Heap → List Loc → Prop} {k n : Nat} {pc : Nat} {Ls : Array Slot} {w : Value} {t : FieldType} (hw : w.isRef = true) (hret : meth.sig.returnType = some t) (ht : t.isReference = true)
    (hd : decode c.code pc = .ok (.areturn, 1)) (hk : cells ≤ k) (hn : slots ≤ n) {h : Heap} (eT : T.heap = h) (q : Q (some w) h locs) : Go p.tables e below s Q k n (T.setTop (mkF m pc Ls [w])) := by
  obtain ⟨fs, hr, hrun, hended, hW, hsame⟩ := X.leave (v := some w) (fun h => by rw [hret] at h; cases h) hlk
  subst eT
  exact ⟨_, _, X.areturnOut hx hw hret ht hd hr, hrun, hended, _, _, rfl, q, ⟨_, rfl⟩, hW, hsame.mono hk hn⟩
theorem Go.retV (X : Stand p l e R s m args below meth c T locs cells slots) (hx : p.tables.exec = Jvm.exec) (hlk : meth.locks = false) {Q : Option Value → Heap → List Loc → Prop} {k n : Nat} {pc : Nat} {Ls : Array Slot} (hret : meth.sig.returnType = none)
    (hd : decode c.code pc = .ok (.return_, 1)) (hk : cells ≤ k) (hn : slots ≤ n) {h : Heap} (eT : T.heap = h) (q : Q none h locs) : Go p.tables e below s Q k n (T.setTop (mkF m pc Ls [])) := by
  obtain ⟨fs, hr, hrun, hended, hW, hsame⟩ := X.leave (v := none) (fun _ => rfl) hlk
  subst eT
  exact ⟨_, _, X.returnOut hx hret hd hr, hrun, hended, _, _, rfl, q, ⟨_, rfl⟩, hW, hsame.mono hk hn⟩
end New
end Jvm.RoadKit
/- laws to paste: Road.backV (cut by pick.py; bodies as the Statement names them) -/
namespace Jvm.Pilot.@@N@@
namespace StrChars
open Jvm Sem ClassFile Op Lib Jvm.Stand Jvm.Free.XT Jvm.Free.ALB Jvm.Free.JM Jvm.Free
open Jvm.Lib.Cold (StaticIs)
/-- a char array whose places are chars -/
def Ch (a : Addr) (A : Cell) (U : State) : Prop := Arr .char a A U ∧ Typed .char A
theorem Ch.mv {a : Addr} {A : Cell} {U U' : State} (h : Ch a A U) (hal : U.vm.Alike U'.vm) (hh : U'.heap = U.heap) : Ch a A U' := ⟨h.1.mv hal hh, h.2⟩
theorem Ch.keep {a : Addr} {A : Cell} {U U' : State} (h : Ch a A U) (hal : U.vm.Alike U'.vm) (hk : U'.heap[a]? = some A) : Ch a A U' := ⟨h.1.keep hal hk, h.2⟩
/-- what place i of a char[]'s cell holds -/
def cv (A : Cell) (i : Nat) : Int32 := match A.slots[i]? with | some (.int x) => x | _ => 0
theorem Ch.get {a : Addr} {A : Cell} {U : State} (h : Ch a A U) {i : Nat} (hi : i < A.slots.size) : A.slots[i]? = some (.int (cv A i)) := by
  have e := Array.getElem?_eq_getElem hi
  have f := h.2 i _ e
  unfold cv; rw [e]
  generalize A.slots[i] = v at f
  cases v <;> simp [fits] at f ⊢
/-- the byte that i2b leaves of a char -/
def lo8 (x : Int32) : Int32 := x.toInt8.toInt32
theorem fits_lo8 (y : Int32) : fits .byte (.int (lo8 y)) = true := by
  have h1 := y.toInt8.le_toInt
  have h2 := y.toInt8.toInt_lt
  simp only [lo8, fits, Bool.and_eq_true, decide_eq_true_eq, Int32.le_iff_toInt_le, Int8.toInt_toInt32, show (-128 : Int32).toInt = -128 from by decide, show (127 : Int32).toInt = 127 from by decide]
  omega
/-- A' is A but that each place j of lo .. hi - 1 holds f j -/
def Laid (A A' : Cell) (lo hi : Nat) (f : Nat → Value) : Prop := A'.cls = A.cls ∧ A'.vm = A.vm ∧ A'.slots.size = A.slots.size ∧ ∀ i, A'.slots[i]? = if lo ≤ i ∧ i < hi then some (f i) else A.slots[i]?
theorem Laid.zero (A : Cell) (lo : Nat) (f : Nat → Value) : Laid A A lo (lo + 0) f := ⟨rfl, rfl, rfl, fun i => by rw [if_neg (by omega)]⟩
theorem Laid.step {A Ak : Cell} {lo k : Nat} {f : Nat → Value} {v : Value} (h : Laid A Ak lo k f) (hlo : lo ≤ k) (hk : k < Ak.slots.size) (hv : v = f k) : Laid A (Ak.setSlot k v) lo (k + 1) f := by
  refine ⟨h.1, h.2.1, by simpa [Cell.setSlot] using h.2.2.1, fun i => ?_⟩
  by_cases e : k = i
  · subst e; rw [Cell.slots_setSlot_self v hk, if_pos (by omega), hv]
  · rw [Cell.slots_setSlot_ne v e, h.2.2.2 i]
    by_cases q : lo ≤ i ∧ i < k
    · rw [if_pos q, if_pos (by omega)]
    · rw [if_neg q, if_neg (by omega)]
def U16 : String := "java/lang/StringUTF16"
namespace Cmp5
def yN : MethodName := ⟨"java/lang/StringUTF16", "compress", "([CI[BII)I"⟩
abbrev yB : ByteArray := jdk_52_method_21_code
theorem d0 : decode yB 0 = .ok (.iconst 0, 1) := by decide +kernel
theorem d1 : decode yB 1 = .ok (.istore 5, 2) := by decide +kernel
theorem d3 : decode yB 3 = .ok (.iload 5, 2) := by decide +kernel
theorem d5 : decode yB 5 = .ok (.iload 4, 2) := by decide +kernel
theorem d7 : decode yB 7 = .ok (.if_icmp (.ge) 37, 3) := by decide +kernel
theorem d10 : decode yB 10 = .ok (.aload_n 0, 1) := by decide +kernel
theorem d11 : decode yB 11 = .ok (.iload_n 1, 1) := by decide +kernel
theorem d12 : decode yB 12 = .ok (.caload, 1) := by decide +kernel
theorem d13 : decode yB 13 = .ok (.istore 6, 2) := by decide +kernel
theorem d15 : decode yB 15 = .ok (.iload 6, 2) := by decide +kernel
theorem d17 : decode yB 17 = .ok (.sipush 255, 3) := by decide +kernel
theorem d20 : decode yB 20 = .ok (.if_icmp (.le) 6, 3) := by decide +kernel
theorem d26 : decode yB 26 = .ok (.aload_n 2, 1) := by decide +kernel
theorem d27 : decode yB 27 = .ok (.iload_n 3, 1) := by decide +kernel
theorem d28 : decode yB 28 = .ok (.iload 6, 2) := by decide +kernel
theorem d30 : decode yB 30 = .ok (.i2b, 1) := by decide +kernel
theorem d31 : decode yB 31 = .ok (.bastore, 1) := by decide +kernel
theorem d32 : decode yB 32 = .ok (.iinc 1 1, 3) := by decide +kernel
theorem d35 : decode yB 35 = .ok (.iinc 3 1, 3) := by decide +kernel
theorem d38 : decode yB 38 = .ok (.iinc 5 1, 3) := by decide +kernel
theorem d41 : decode yB 41 = .ok (.goto (-38), 3) := by decide +kernel
theorem d44 : decode yB 44 = .ok (.iload 4, 2) := by decide +kernel
theorem d46 : decode yB 46 = .ok (.ireturn, 1) := by decide +kernel
def site : List Cond := []
def tab : Cond := tabOf yN yB 7 (some .int) site
def P (b : Addr) (A : Cell) (d : Addr) (B : Cell) (o q len : Nat) (args : Array Value) (s : State) : Prop := args = #[.ref b, .int (Int32.ofNat o), .ref d, .int (Int32.ofNat q), .int (Int32.ofNat len)] ∧ Ch b A s ∧ Arr .byte d B s ∧ b ≠ d ∧ o + len ≤ A.slots.size ∧ q + len ≤ B.slots.size ∧ ∀ i, i < len → ¬ 255 < cv A (o + i)
def E (b : Addr) (A : Cell) (d : Addr) (B : Cell) (o q len : Nat) (r : Option Value) (s u : State) : Prop := r = some (.int (Int32.ofNat len)) ∧ ∃ B', Put d B' s u ∧ Laid B B' q (q + len) (fun j => Value.int (lo8 (cv A (o + (j - q)))))
/-- no char of the range above 255: len; the places written hold each char's low byte -/
theorem law (l : Launch) (b : Addr) (A : Cell) (d : Addr) (B : Cell) (o q len : Nat) : Law l yN 5 5 0 0 yB 7 (some .int) site (P b A d B o q len) (E b A d B o q len) (copyLocs d q len) 0 0 := by
  refine Law.of_walk (plainFor_of_name (by decide +kernel)) (by decide +kernel) (by decide +kernel) (by decide) (fun _ _ h => by rw [h.1]; rfl) (fun _ U U' hal hh h => ⟨h.1, h.2.1.mv hal hh, h.2.2.1.mv hal hh, h.2.2.2⟩) (fun r U U' V V' h1 hal h2 h => ⟨h.1, h.2.elim fun B' q => ⟨B', q.1.mv h1 h2, q.2⟩⟩) ?_
  intro p e s m args below meth c s₁ X0 hexec hbytes hml hret hlk hnm hown hh0 W hP
  obtain ⟨rfl, hA, hB, hne, l1, l2, hp⟩ := hP
  have c1 : Steps p.tables e below (s₁.setTop (entryFrame m #[.ref b, .int (Int32.ofNat o), .ref d, .int (Int32.ofNat q), .int (Int32.ofNat len)] 7)) (s₁.setTop (mkF m 0 #[.val (.ref b), .val (.int (Int32.ofNat o)), .val (.ref d), .val (.int (Int32.ofNat q)), .val (.int (Int32.ofNat len)), .unset, .unset] [])) := entry rfl
  have hA0 := hA.1.mv X0.warmed.alike hh0
  have hB0 := hB.mv X0.warmed.alike hh0
  have a31 := hA.1.2.2.2
  have c2 : Steps p.tables e below (s₁.setTop (entryFrame m #[.ref b, .int (Int32.ofNat o), .ref d, .int (Int32.ofNat q), .int (Int32.ofNat len)] 7)) (s₁.setTop (mkF m 3 #[.val (.ref b), .val (.int (Int32.ofNat o)), .val (.ref d), .val (.int (Int32.ofNat q)), .val (.int (Int32.ofNat len)), .val (.int 0), .unset] [])) := c1.trans (by
    refine iconstV X0.here hexec rfl 0 (hb hbytes d0) (by decide) ?_
    refine XS.istore X0.here hexec rfl (hb hbytes d1) rfl rfl ?_
    exact Steps.refl _)
  have loop : ∀ (r i : Nat), i + r = len → ∀ (z : Slot), (z = .unset ∨ ∃ w, z = .val w ∧ w.category = 1) → ∀ (Tl : State) (Bk : Cell), Stand p l e { frames := 0, locals := 0, cells := 0, slots := 0 } s m #[.ref b, .int (Int32.ofNat o), .ref d, .int (Int32.ofNat q), .int (Int32.ofNat len)] below meth c Tl ([] ++ copyLocs d q i) 0 0 → Put d Bk s₁ Tl → Laid B Bk q (q + i) (fun j => Value.int (lo8 (cv A (o + (j - q))))) →
      Steps p.tables e below (s₁.setTop (entryFrame m #[.ref b, .int (Int32.ofNat o), .ref d, .int (Int32.ofNat q), .int (Int32.ofNat len)] 7)) (Tl.setTop (mkF m 3 #[.val (.ref b), .val (.int (Int32.ofNat (o + i))), .val (.ref d), .val (.int (Int32.ofNat (q + i))), .val (.int (Int32.ofNat len)), .val (.int (Int32.ofNat i)), z] [])) → ∃ (T' : State) (B' : Cell) (z' : Slot), Stand p l e { frames := 0, locals := 0, cells := 0, slots := 0 } s m #[.ref b, .int (Int32.ofNat o), .ref d, .int (Int32.ofNat q), .int (Int32.ofNat len)] below meth c T' ([] ++ copyLocs d q len) 0 0 ∧ Put d B' s₁ T' ∧ Laid B B' q (q + len) (fun j => Value.int (lo8 (cv A (o + (j - q))))) ∧
      Steps p.tables e below (s₁.setTop (entryFrame m #[.ref b, .int (Int32.ofNat o), .ref d, .int (Int32.ofNat q), .int (Int32.ofNat len)] 7)) (T'.setTop (mkF m 3 #[.val (.ref b), .val (.int (Int32.ofNat (o + len))), .val (.ref d), .val (.int (Int32.ofNat (q + len))), .val (.int (Int32.ofNat len)), .val (.int (Int32.ofNat len)), z'] [])) := by
    intro r
    induction r with
    | zero =>
      intro i hi z hz Tl Bk Xl pl fl cl
      have hil : i = len := by omega
      rw [hil] at Xl fl cl
      exact ⟨Tl, Bk, z, Xl, pl, fl, cl⟩
    | succ r ih =>
      intro i hi z hz Tl Bk Xl pl fl cl
      have all := X0.warmed.alike.symm.trans Xl.warmed.alike
      have hAl := hA0.keep all (pl.other hne hA0.1)
      have hBk := hB0.like all pl.1 fl.1 fl.2.1 fl.2.2.1
      have hlt : q + i < Bk.slots.size := by rw [fl.2.2.1]; omega
      have c3 : Steps p.tables e below (s₁.setTop (entryFrame m #[.ref b, .int (Int32.ofNat o), .ref d, .int (Int32.ofNat q), .int (Int32.ofNat len)] 7)) (Tl.setTop (mkF m 12 #[.val (.ref b), .val (.int (Int32.ofNat (o + i))), .val (.ref d), .val (.int (Int32.ofNat (q + i))), .val (.int (Int32.ofNat len)), .val (.int (Int32.ofNat i)), z] [.int (Int32.ofNat (o + i)), .ref b])) := cl.trans (by
        refine XS.iload Xl.here hexec rfl (hb hbytes d3) rfl ?_
        refine XS.iload Xl.here hexec rfl (hb hbytes d5) rfl ?_
        refine XS.icmpNo Xl.here hexec rfl (hb hbytes d7) rfl (ii_ge_f (lt32 (by omega) (by omega))) ?_
        refine XS.aloadN Xl.here hexec rfl (hb hbytes d10) rfl rfl ?_
        refine XS.iloadN Xl.here hexec rfl (hb hbytes d11) rfl ?_
        exact Steps.refl _)
      have c4 : Steps p.tables e below (s₁.setTop (entryFrame m #[.ref b, .int (Int32.ofNat o), .ref d, .int (Int32.ofNat q), .int (Int32.ofNat len)] 7)) (Tl.setTop (mkF m 13 #[.val (.ref b), .val (.int (Int32.ofNat (o + i))), .val (.ref d), .val (.int (Int32.ofNat (q + i))), .val (.int (Int32.ofNat len)), .val (.int (Int32.ofNat i)), z] [.int (cv A (o + i))])) := c3.trans (by
        refine Xl.aget hexec hAl rfl (hA.get (i := o + i) (by omega)) rfl rfl (hb hbytes d12) ?_
        exact Steps.refl _)
      have c5 : Steps p.tables e below (s₁.setTop (entryFrame m #[.ref b, .int (Int32.ofNat o), .ref d, .int (Int32.ofNat q), .int (Int32.ofNat len)] 7)) (Tl.setTop (mkF m 15 #[.val (.ref b), .val (.int (Int32.ofNat (o + i))), .val (.ref d), .val (.int (Int32.ofNat (q + i))), .val (.int (Int32.ofNat len)), .val (.int (Int32.ofNat i)), .val (.int (cv A (o + i)))] [])) := c4.trans (by
        refine XS.istoreS Xl.here hexec rfl (hb hbytes d13) rfl rfl hz ?_
        exact Steps.refl _)
      have c6 : Steps p.tables e below (s₁.setTop (entryFrame m #[.ref b, .int (Int32.ofNat o), .ref d, .int (Int32.ofNat q), .int (Int32.ofNat len)] 7)) (Tl.setTop (mkF m 31 #[.val (.ref b), .val (.int (Int32.ofNat (o + i))), .val (.ref d), .val (.int (Int32.ofNat (q + i))), .val (.int (Int32.ofNat len)), .val (.int (Int32.ofNat i)), .val (.int (cv A (o + i)))] [.int (lo8 (cv A (o + i))), .int (Int32.ofNat (q + i)), .ref d])) := c5.trans (by
        refine XS.iload Xl.here hexec rfl (hb hbytes d15) rfl ?_
        refine sipushV Xl.here hexec rfl 255 (hb hbytes d17) (by decide) ?_
        refine XS.icmpYes Xl.here hexec rfl (pc0 := 20) rfl (hb hbytes d20) rfl (ii_le_t (hp i (by omega))) (by decide) rfl ?_
        refine XS.aloadN Xl.here hexec rfl (hb hbytes d26) rfl rfl ?_
        refine XS.iloadN Xl.here hexec rfl (hb hbytes d27) rfl ?_
        refine XS.iload Xl.here hexec rfl (hb hbytes d28) rfl ?_
        refine i2b Xl.here hexec rfl (hb hbytes d30) rfl ?_
        exact Steps.refl _)
      obtain ⟨T7, X7, p7, st7⟩ := Xl.aput hexec hBk rfl hlt rfl (fits_lo8 (cv A (o + i))) (g := (mkF m 31 #[.val (.ref b), .val (.int (Int32.ofNat (o + i))), .val (.ref d), .val (.int (Int32.ofNat (q + i))), .val (.int (Int32.ofNat len)), .val (.int (Int32.ofNat i)), .val (.int (cv A (o + i)))] [.int (lo8 (cv A (o + i))), .int (Int32.ofNat (q + i)), .ref d])) rfl (rest := []) rfl (hb hbytes d31)
      have c8 : Steps p.tables e below (s₁.setTop (entryFrame m #[.ref b, .int (Int32.ofNat o), .ref d, .int (Int32.ofNat q), .int (Int32.ofNat len)] 7)) (T7.setTop (mkF m 32 #[.val (.ref b), .val (.int (Int32.ofNat (o + i))), .val (.ref d), .val (.int (Int32.ofNat (q + i))), .val (.int (Int32.ofNat len)), .val (.int (Int32.ofNat i)), .val (.int (cv A (o + i)))] [])) := c6.trans (st7 _ (Steps.refl _))
      have c9 : Steps p.tables e below (s₁.setTop (entryFrame m #[.ref b, .int (Int32.ofNat o), .ref d, .int (Int32.ofNat q), .int (Int32.ofNat len)] 7)) (T7.setTop (mkF m 3 #[.val (.ref b), .val (.int (Int32.ofNat (o + i) + 1)), .val (.ref d), .val (.int (Int32.ofNat (q + i) + 1)), .val (.int (Int32.ofNat len)), .val (.int (Int32.ofNat i + 1)), .val (.int (cv A (o + i)))] [])) := c8.trans (by
        refine iincV X7.here hexec rfl 1 (hb hbytes d32) (by decide) rfl rfl ?_
        refine iincV X7.here hexec rfl 1 (hb hbytes d35) (by decide) rfl rfl ?_
        refine iincV X7.here hexec rfl 1 (hb hbytes d38) (by decide) rfl rfl ?_
        refine XS.goto X7.here hexec rfl (pc0 := 41) rfl (hb hbytes d41) (by decide) rfl ?_
        exact Steps.refl _)
      have c10 : Steps p.tables e below (s₁.setTop (entryFrame m #[.ref b, .int (Int32.ofNat o), .ref d, .int (Int32.ofNat q), .int (Int32.ofNat len)] 7)) (T7.setTop (mkF m 3 #[.val (.ref b), .val (.int (Int32.ofNat (o + (i + 1)))), .val (.ref d), .val (.int (Int32.ofNat (q + (i + 1)))), .val (.int (Int32.ofNat len)), .val (.int (Int32.ofNat (i + 1))), .val (.int (cv A (o + i)))] [])) := by
        have := c9
        rw [succ32, succ32, succ32] at this
        exact this
      exact ih (i + 1) (by omega) _ (Or.inr ⟨_, rfl, rfl⟩) T7 _ (by rw [copyLocs_step, ← List.append_assoc]; exact X7) (pl.trans p7) (fl.step (by omega) hlt (by simp)) c10
  obtain ⟨T9, B9, z9, X9, p9, f9, g9⟩ := loop len 0 (by omega) .unset (Or.inl rfl) s₁ B (by simpa [copyLocs] using X0) ⟨hB0.1, fun _ _ => rfl, rfl⟩ (Laid.zero _ _ _) c2
  have c11 : Steps p.tables e below (s₁.setTop (entryFrame m #[.ref b, .int (Int32.ofNat o), .ref d, .int (Int32.ofNat q), .int (Int32.ofNat len)] 7)) (T9.setTop (mkF m 46 #[.val (.ref b), .val (.int (Int32.ofNat (o + len))), .val (.ref d), .val (.int (Int32.ofNat (q + len))), .val (.int (Int32.ofNat len)), .val (.int (Int32.ofNat len)), z9] [.int (Int32.ofNat len)])) := g9.trans (by
    refine XS.iload X9.here hexec rfl (hb hbytes d3) rfl ?_
    refine XS.iload X9.here hexec rfl (hb hbytes d5) rfl ?_
    refine XS.icmpYes X9.here hexec rfl (pc0 := 7) rfl (hb hbytes d7) rfl (ii_ge_t (nlt32 (by omega) (Nat.le_refl _))) (by decide) rfl ?_
    refine XS.iload X9.here hexec rfl (hb hbytes d44) rfl ?_
    exact Steps.refl _)
  exact ⟨T9, some (.int (Int32.ofNat len)), _, _, _, X9, by simp, rfl, rfl, (fun h => by cases h), ⟨rfl, B9, p9.from hh0, f9⟩, fun fs hl => c11.trans (X9.ireturnOut hexec hret rfl (Or.inl rfl) (hb hbytes d46) hl)⟩
end Cmp5
namespace Cmp3
def yN : MethodName := ⟨"java/lang/StringUTF16", "compress", "([CII)[B"⟩
abbrev yB : ByteArray := jdk_52_method_16_code
theorem d0 : decode yB 0 = .ok (.iload_n 2, 1) := by decide +kernel
theorem d1 : decode yB 1 = .ok (.newarray .byte, 2) := by decide +kernel
theorem d3 : decode yB 3 = .ok (.astore_n 3, 1) := by decide +kernel
theorem d4 : decode yB 4 = .ok (.aload_n 0, 1) := by decide +kernel
theorem d5 : decode yB 5 = .ok (.iload_n 1, 1) := by decide +kernel
theorem d6 : decode yB 6 = .ok (.aload_n 3, 1) := by decide +kernel
theorem d7 : decode yB 7 = .ok (.iconst 0, 1) := by decide +kernel
theorem d8 : decode yB 8 = .ok (.iload_n 2, 1) := by decide +kernel
theorem d9 : decode yB 9 = .ok (.invokestatic 115, 3) := by decide +kernel
theorem d12 : decode yB 12 = .ok (.istore 4, 2) := by decide +kernel
theorem d14 : decode yB 14 = .ok (.iload 4, 2) := by decide +kernel
theorem d16 : decode yB 16 = .ok (.iload_n 2, 1) := by decide +kernel
theorem d17 : decode yB 17 = .ok (.if_icmp (.eq) 40, 3) := by decide +kernel
theorem d57 : decode yB 57 = .ok (.aload_n 3, 1) := by decide +kernel
theorem d58 : decode yB 58 = .ok (.areturn, 1) := by decide +kernel
def site : List Cond := [.arrayClass .byte, Cmp5.tab] ++ staticW U16 115 Cmp5.yN
def tab : Cond := tabOf yN yB 6 (some (.array .byte)) site
def P (b : Addr) (A : Cell) (o len : Nat) (args : Array Value) (s : State) : Prop := args = #[.ref b, .int (Int32.ofNat o), .int (Int32.ofNat len)] ∧ Ch b A s ∧ o + len ≤ A.slots.size ∧ len ≤ 536870912 ∧ ∀ i, i < len → ¬ 255 < cv A (o + i)
def E (b : Addr) (A : Cell) (o len : Nat) (r : Option Value) (s u : State) : Prop := NewArr .byte "[B" len (fun j => .int (lo8 (cv A (o + j)))) r s u ∧ u.heap.size = s.heap.size + 1
/-- no char of the range above 255: a new byte[] of their low bytes -/
theorem law (l : Launch) (b : Addr) (A : Cell) (o len : Nat) : Law l yN 3 3 1 18 yB 6 (some (.array .byte)) site (P b A o len) (E b A o len) [] 1 len := by
  refine Law.of_walk (plainFor_of_name (by decide +kernel)) (by decide +kernel) (by decide +kernel) (by decide) (fun _ _ h => by rw [h.1]; rfl) (fun _ U U' hal hh h => ⟨h.1, h.2.1.mv hal hh, h.2.2⟩) (fun r U U' V V' h1 hal h2 h => ⟨NewArr.mv r U U' V V' h1 hal h2 h.1, by rw [h1, h2]; exact h.2⟩) ?_
  intro p e s m args below meth c s₁ X0 hexec hbytes hml hret hlk hnm hown hh0 W hP
  obtain ⟨rfl, hA, l1, l2, hp⟩ := hP
  have a31 := hA.1.2.2.2
  have c1 : Steps p.tables e below (s₁.setTop (entryFrame m #[.ref b, .int (Int32.ofNat o), .int (Int32.ofNat len)] 6)) (s₁.setTop (mkF m 0 #[.val (.ref b), .val (.int (Int32.ofNat o)), .val (.int (Int32.ofNat len)), .unset, .unset, .unset] [])) := entry rfl
  have c2 : Steps p.tables e below (s₁.setTop (entryFrame m #[.ref b, .int (Int32.ofNat o), .int (Int32.ofNat len)] 6)) (s₁.setTop (mkF m 1 #[.val (.ref b), .val (.int (Int32.ofNat o)), .val (.int (Int32.ofNat len)), .unset, .unset, .unset] [.int (Int32.ofNat len)])) := c1.trans (by
    refine XS.iloadN X0.here hexec rfl (hb hbytes d0) rfl ?_
    exact Steps.refl _)
  obtain ⟨T3, B3, X3, ba3, bs3, bv3, bh3, bf3, st3⟩ := X0.anew hexec (atype := .byte) (wk W (.arrayClass .byte)) rfl (by show len * 1 ≤ _; omega) (by omega) (g := (mkF m 1 #[.val (.ref b), .val (.int (Int32.ofNat o)), .val (.int (Int32.ofNat len)), .unset, .unset, .unset] [.int (Int32.ofNat len)])) rfl (hb hbytes d1) (rest := []) rfl (Nat.le_refl _) (by show 0 + len ≤ len; omega)
  rw [hh0] at ba3 st3
  have kp3 : XT.Kept s T3 := (XT.Kept.of_eq hh0).push bh3
  have hA3 := hA.keep X3.warmed.alike (kp3 _ _ hA.1.1)
  have hne : b ≠ s.heap.size := hA.1.ne
  have c4 : Steps p.tables e below (s₁.setTop (entryFrame m #[.ref b, .int (Int32.ofNat o), .int (Int32.ofNat len)] 6)) (T3.setTop (mkF m 3 #[.val (.ref b), .val (.int (Int32.ofNat o)), .val (.int (Int32.ofNat len)), .unset, .unset, .unset] [.ref s.heap.size])) := c2.trans (st3 _ (Steps.refl _))
  have c5 : Steps p.tables e below (s₁.setTop (entryFrame m #[.ref b, .int (Int32.ofNat o), .int (Int32.ofNat len)] 6)) (T3.setTop (mkF m 9 #[.val (.ref b), .val (.int (Int32.ofNat o)), .val (.int (Int32.ofNat len)), .val (.ref s.heap.size), .unset, .unset] [.int (Int32.ofNat len), .int 0, .ref s.heap.size, .int (Int32.ofNat o), .ref b])) := c4.trans (by
    refine XS.astoreN X3.here hexec rfl (hb hbytes d3) rfl rfl rfl ?_
    refine XS.aloadN X3.here hexec rfl (hb hbytes d4) rfl rfl ?_
    refine XS.iloadN X3.here hexec rfl (hb hbytes d5) rfl ?_
    refine XS.aloadN X3.here hexec rfl (hb hbytes d6) rfl rfl ?_
    refine iconstV X3.here hexec rfl 0 (hb hbytes d7) (by decide) ?_
    refine XS.iloadN X3.here hexec rfl (hb hbytes d8) rfl ?_
    exact Steps.refl _)
  obtain ⟨v6, T6, X6, E6, g6⟩ := X3.callS hexec (Cmp5.law l b A s.heap.size B3 o 0 len) hown (wks W (staticW U16 115 Cmp5.yN)) (wk W Cmp5.tab) (W := 0) (Nat.le_of_ble_eq_true rfl) (Nat.le_of_ble_eq_true rfl) (Nat.le_refl _) (by show 0 + len + 0 ≤ len; omega) (g := (mkF m 9 #[.val (.ref b), .val (.int (Int32.ofNat o)), .val (.int (Int32.ofNat len)), .val (.ref s.heap.size), .unset, .unset] [.int (Int32.ofNat len), .int (Int32.ofNat 0), .ref s.heap.size, .int (Int32.ofNat o), .ref b])) rfl (by rw [hml]; rfl) c5 (argsL := [.ref b, .int (Int32.ofNat o), .ref s.heap.size, .int (Int32.ofNat 0), .int (Int32.ofNat len)]) (rest := []) rfl rfl (by show 2 * 0 + 0 ≤ _; decide) (hb hbytes d9) (⟨rfl, hA3, ba3, hne, l1, by rw [bs3]; simp, hp⟩)
  obtain ⟨rfl, B6, p6, f6⟩ := E6
  have c7 : Steps p.tables e below (s₁.setTop (entryFrame m #[.ref b, .int (Int32.ofNat o), .int (Int32.ofNat len)] 6)) (T6.setTop (mkF m 12 #[.val (.ref b), .val (.int (Int32.ofNat o)), .val (.int (Int32.ofNat len)), .val (.ref s.heap.size), .unset, .unset] [.int (Int32.ofNat len)])) := g6
  have c8 : Steps p.tables e below (s₁.setTop (entryFrame m #[.ref b, .int (Int32.ofNat o), .int (Int32.ofNat len)] 6)) (T6.setTop (mkF m 58 #[.val (.ref b), .val (.int (Int32.ofNat o)), .val (.int (Int32.ofNat len)), .val (.ref s.heap.size), .val (.int (Int32.ofNat len)), .unset] [.ref s.heap.size])) := c7.trans (by
    refine XS.istore X6.here hexec rfl (hb hbytes d12) rfl rfl ?_
    refine XS.iload X6.here hexec rfl (hb hbytes d14) rfl ?_
    refine XS.iloadN X6.here hexec rfl (hb hbytes d16) rfl ?_
    refine XS.icmpYes X6.here hexec rfl (pc0 := 17) rfl (hb hbytes d17) rfl (ii_eq_t rfl) (by decide) rfl ?_
    refine XS.aloadN X6.here hexec rfl (hb hbytes d57) rfl rfl ?_
    exact Steps.refl _)
  have X8 := X6.wide (L' := []) (cells' := 1) (slots' := len) (fun x hx hlt => by
    simp only [List.nil_append, copyLocs, List.mem_map, List.mem_range] at hx
    obtain ⟨i, -, rfl⟩ := hx
    exact absurd hlt (Nat.lt_irrefl _)) (Nat.le_refl _) (by omega)
  exact ⟨T6, some (.ref s.heap.size), _, _, _, X8, rfl, rfl, rfl, (fun h => by cases h), ⟨⟨rfl, B6, ba3.like (X3.warmed.alike.symm.trans X6.warmed.alike) p6.1 f6.1 f6.2.1 f6.2.2.1, f6.2.1.trans bv3, by rw [X6.warmed.alike.findClass, f6.1]; exact bf3, by rw [f6.2.2.1, bs3]; simp, fun j hj => by rw [f6.2.2.2 j, if_pos (by omega)]; rfl, kp3.put p6 (Nat.le_refl _)⟩, by rw [p6.2.2, bh3, hh0]; simp⟩, fun fs hl => c8.trans (X8.areturnOut hexec rfl hret rfl (hb hbytes d58) hl)⟩
end Cmp3
namespace CodL
def yN : MethodName := ⟨"java/lang/StringUTF16", "coderFromArrayLen", "([BI)B"⟩
abbrev yB : ByteArray := jdk_52_method_15_code
theorem d0 : decode yB 0 = .ok (.iload_n 1, 1) := by decide +kernel
theorem d1 : decode yB 1 = .ok (.aload_n 0, 1) := by decide +kernel
theorem d2 : decode yB 2 = .ok (.arraylength, 1) := by decide +kernel
theorem d3 : decode yB 3 = .ok (.isub, 1) := by decide +kernel
theorem d4 : decode yB 4 = .ok (.bipush 31, 2) := by decide +kernel
theorem d6 : decode yB 6 = .ok (.iushr, 1) := by decide +kernel
theorem d7 : decode yB 7 = .ok (.i2b, 1) := by decide +kernel
theorem d8 : decode yB 8 = .ok (.ireturn, 1) := by decide +kernel
def site : List Cond := []
def tab : Cond := tabOf yN yB 2 (some .byte) site
def P (d : Addr) (B : Cell) (args : Array Value) (s : State) : Prop := args = #[.ref d, .int (Int32.ofNat B.slots.size)] ∧ Arr .byte d B s
def E (r : Option Value) (s u : State) : Prop := XT.PureE (some (.int 0)) r s u
/-- an array as long as the number of chars: LATIN1 -/
theorem law (l : Launch) (d : Addr) (B : Cell) : Law l yN 2 2 0 0 yB 2 (some .byte) site (P d B) E [] 0 0 := by
  refine Law.of_walk (plainFor_of_name (by decide +kernel)) (by decide +kernel) (by decide +kernel) (by decide) (fun _ _ h => by rw [h.1]; rfl) (fun _ U U' hal hh h => ⟨h.1, h.2.mv hal hh⟩) (fun r U U' V V' h1 hal h2 h => XT.PureE.mv r U U' V V' h1 hal h2 h) ?_
  intro p e s m args below meth c s₁ X0 hexec hbytes hml hret hlk hnm hown hh0 W hP
  obtain ⟨rfl, hB⟩ := hP
  have hB0 := hB.mv X0.warmed.alike hh0
  have c1 : Steps p.tables e below (s₁.setTop (entryFrame m #[.ref d, .int (Int32.ofNat B.slots.size)] 2)) (s₁.setTop (mkF m 0 #[.val (.ref d), .val (.int (Int32.ofNat B.slots.size))] [])) := entry rfl
  have c2 : Steps p.tables e below (s₁.setTop (entryFrame m #[.ref d, .int (Int32.ofNat B.slots.size)] 2)) (s₁.setTop (mkF m 2 #[.val (.ref d), .val (.int (Int32.ofNat B.slots.size))] [.ref d, .int (Int32.ofNat B.slots.size)])) := c1.trans (by
    refine XS.iloadN X0.here hexec rfl (hb hbytes d0) rfl ?_
    refine XS.aloadN X0.here hexec rfl (hb hbytes d1) rfl rfl ?_
    exact Steps.refl _)
  have c3 : Steps p.tables e below (s₁.setTop (entryFrame m #[.ref d, .int (Int32.ofNat B.slots.size)] 2)) (s₁.setTop (mkF m 8 #[.val (.ref d), .val (.int (Int32.ofNat B.slots.size))] [.int (lo8 (ushr (Int32.ofNat B.slots.size - Int32.ofNat B.slots.size) 31))])) := c2.trans (by
    refine X0.alen hexec hB0 rfl rfl (hb hbytes d2) ?_
    refine XS.isub X0.here hexec rfl (hb hbytes d3) rfl ?_
    refine bipushV X0.here hexec rfl 31 (hb hbytes d4) (by decide) ?_
    refine iushr X0.here hexec rfl (hb hbytes d6) rfl ?_
    refine i2b X0.here hexec rfl (hb hbytes d7) rfl ?_
    exact Steps.refl _)
  have e0 : lo8 (ushr (Int32.ofNat B.slots.size - Int32.ofNat B.slots.size) 31) = 0 := by rw [Int32.sub_self]; decide
  rw [e0] at c3
  exact ⟨s₁, some (.int 0), _, _, _, X0, rfl, rfl, rfl, (fun h => by cases h), ⟨rfl, hh0⟩, fun fs hl => c3.trans (X0.ireturnOut hexec hret rfl (Or.inr (Or.inr (Or.inl rfl))) (hb hbytes d8) hl)⟩
end CodL
/-- the String at a is Latin-1 over a new byte[] (the heap's one new cell): the low bytes of the len chars of A from o on; every cell but a is kept -/
def Got (a : Addr) (D : Cell) (fV fC : Field) (A : Cell) (o len : Nat) (r : Option Value) (s u : State) : Prop := r = none ∧ ∃ D' V : Cell, Blank "java/lang/String" a D' u ∧ Same D D' [fV.slot, fC.slot] ∧ D'.slots[fV.slot]? = some (.ref s.heap.size) ∧ D'.slots[fC.slot]? = some (.int 0) ∧ Arr .byte s.heap.size V u ∧ V.vm = .none ∧ u.vm.findClass "[B" = some V.cls ∧ V.slots.size = len ∧ (∀ j, j < len → V.slots[j]? = some (.int (lo8 (cv A (o + j))))) ∧ (∀ (y : Addr) (c : Cell), y ≠ a → s.heap[y]? = some c → u.heap[y]? = some c) ∧ u.heap.size = s.heap.size + 1
theorem Got.mv {a : Addr} {D A : Cell} {fV fC : Field} {o len : Nat} : ∀ r (U U' V V' : State), U'.heap = U.heap → V.vm.Alike V'.vm → V'.heap = V.heap → Got a D fV fC A o len r U V → Got a D fV fC A o len r U' V' :=
  fun r U U' V V' h1 hal h2 ⟨e0, D', X, a1, a2, a3, a4, a5, a6, a7, a8, a9, a10, a11⟩ => ⟨e0, D', X, a1.mv hal h2, a2, by rw [h1]; exact a3, a4, by rw [h1]; exact a5.mv hal h2, a6, by rw [hal.findClass]; exact a7, a8, a9, by rw [h1, h2]; exact a10, by rw [h1, h2]; exact a11⟩
namespace New4
def yN : MethodName := ⟨"java/lang/String", "<init>", "([CIILjava/lang/Void;)V"⟩
abbrev yB : ByteArray := jdk_42_method_149_code
theorem d0 : decode yB 0 = .ok (.aload_n 0, 1) := by decide +kernel
theorem d1 : decode yB 1 = .ok (.invokespecial 1, 3) := by decide +kernel
theorem d4 : decode yB 4 = .ok (.iload_n 3, 1) := by decide +kernel
theorem d5 : decode yB 5 = .ok (.ifCond (.ne) 22, 3) := by decide +kernel
theorem d27 : decode yB 27 = .ok (.getstatic 38, 3) := by decide +kernel
theorem d30 : decode yB 30 = .ok (.ifCond (.eq) 28, 3) := by decide +kernel
theorem d33 : decode yB 33 = .ok (.aload_n 1, 1) := by decide +kernel
theorem d34 : decode yB 34 = .ok (.iload_n 2, 1) := by decide +kernel
theorem d35 : decode yB 35 = .ok (.iload_n 3, 1) := by decide +kernel
theorem d36 : decode yB 36 = .ok (.invokestatic 177, 3) := by decide +kernel
theorem d39 : decode yB 39 = .ok (.astore 5, 2) := by decide +kernel
theorem d41 : decode yB 41 = .ok (.aload_n 0, 1) := by decide +kernel
theorem d42 : decode yB 42 = .ok (.aload 5, 2) := by decide +kernel
theorem d44 : decode yB 44 = .ok (.iload_n 3, 1) := by decide +kernel
theorem d45 : decode yB 45 = .ok (.invokestatic 47, 3) := by decide +kernel
theorem d48 : decode yB 48 = .ok (.putfield 15, 3) := by decide +kernel
theorem d51 : decode yB 51 = .ok (.aload_n 0, 1) := by decide +kernel
theorem d52 : decode yB 52 = .ok (.aload 5, 2) := by decide +kernel
theorem d54 : decode yB 54 = .ok (.putfield 9, 3) := by decide +kernel
theorem d57 : decode yB 57 = .ok (.return_, 1) := by decide +kernel
def site : List Cond := [.fieldLink "java/lang/String" 38 "java/lang/String" "COMPACT_STRINGS" "Z", Cmp3.tab, CodL.tab, .laysFinal "java/lang/String" "java/lang/String" "value" "[B", .fieldLink "java/lang/String" 9 "java/lang/String" "value" "[B", .laysFinal "java/lang/String" "java/lang/String" "coder" "B", .fieldLink "java/lang/String" 15 "java/lang/String" "coder" "B"] ++ objW "java/lang/String" 1 ++ staticW "java/lang/String" 177 Cmp3.yN ++ staticW "java/lang/String" 47 CodL.yN
def tab : Cond := tabOf yN yB 6 none site
def P (a : Addr) (D : Cell) (fV fC : Field) (b : Addr) (A : Cell) (z : Int32) (o len : Nat) (args : Array Value) (s : State) : Prop := args = #[.ref a, .ref b, .int (Int32.ofNat o), .int (Int32.ofNat len), .null] ∧ Blank "java/lang/String" a D s ∧ Found "java/lang/String" "value" "[B" fV s ∧ Found "java/lang/String" "coder" "B" fC s ∧ Ch b A s ∧ StaticIs s "java/lang/String" "COMPACT_STRINGS" "Z" (.int z) ∧ ¬ z = 0 ∧ 0 < len ∧ o + len ≤ A.slots.size ∧ len ≤ 536870912 ∧ ∀ i, i < len → ¬ 255 < cv A (o + i)
def E (a : Addr) (D : Cell) (fV fC : Field) (A : Cell) (o len : Nat) (r : Option Value) (s u : State) : Prop := Got a D fV fC A o len r s u
/-- len > 0, no char of the range above 255: a Latin-1 String of their low bytes -/
theorem law (l : Launch) (a : Addr) (D : Cell) (fV fC : Field) (b : Addr) (A : Cell) (z : Int32) (o len : Nat) : Law l yN 5 4 2 35 yB 6 none site (P a D fV fC b A z o len) (E a D fV fC A o len) [⟨a, fC.slot⟩, ⟨a, fV.slot⟩] 1 len := by
  refine Law.of_walk (plainFor_of_name (by decide +kernel)) (by decide +kernel) (by decide +kernel) (by decide) (fun _ _ h => by rw [h.1]; rfl) (fun _ U U' hal hh h => ⟨h.1, h.2.1.mv hal hh, h.2.2.1.al hal, h.2.2.2.1.al hal, h.2.2.2.2.1.mv hal hh, h.2.2.2.2.2.1.there hal hh, h.2.2.2.2.2.2⟩) (fun r U U' V V' h1 hal h2 h => Got.mv r U U' V V' h1 hal h2 h) ?_
  intro p e s m args below meth c s₁ X0 hexec hbytes hml hret hlk hnm hown hh0 W hP
  obtain ⟨rfl, hB, f1, f2, hA, s1, hz, l0, l1, l2, hp⟩ := hP
  have a31 := hA.1.2.2.2
  have c1 : Steps p.tables e below (s₁.setTop (entryFrame m #[.ref a, .ref b, .int (Int32.ofNat o), .int (Int32.ofNat len), .null] 6)) (s₁.setTop (mkF m 0 #[.val (.ref a), .val (.ref b), .val (.int (Int32.ofNat o)), .val (.int (Int32.ofNat len)), .val .null, .unset] [])) := entry rfl
  have c2 : Steps p.tables e below (s₁.setTop (entryFrame m #[.ref a, .ref b, .int (Int32.ofNat o), .int (Int32.ofNat len), .null] 6)) (s₁.setTop (mkF m 1 #[.val (.ref a), .val (.ref b), .val (.int (Int32.ofNat o)), .val (.int (Int32.ofNat len)), .val .null, .unset] [.ref a])) := c1.trans (by
    refine XS.aloadN X0.here hexec rfl (hb hbytes d0) rfl rfl ?_
    exact Steps.refl _)
  obtain ⟨T3, X3, q3, st3⟩ := X0.oinit hexec hown (wks W (objW "java/lang/String" 1)) (g := (mkF m 1 #[.val (.ref a), .val (.ref b), .val (.int (Int32.ofNat o)), .val (.int (Int32.ofNat len)), .val .null, .unset] [.ref a])) rfl (by rw [hml]; rfl) (rest := []) rfl (hb hbytes d1) (W := 0) (by show 2 * 0 + 0 ≤ _; decide) (Nat.le_of_ble_eq_true rfl) (Nat.le_of_ble_eq_true rfl)
  have hh3 := q3.trans hh0
  have c4 : Steps p.tables e below (s₁.setTop (entryFrame m #[.ref a, .ref b, .int (Int32.ofNat o), .int (Int32.ofNat len), .null] 6)) (T3.setTop (mkF m 27 #[.val (.ref a), .val (.ref b), .val (.int (Int32.ofNat o)), .val (.int (Int32.ofNat len)), .val .null, .unset] [])) := (c2.trans (st3 _ (Steps.refl _))).trans (by
    refine XS.iloadN X3.here hexec rfl (hb hbytes d4) rfl ?_
    refine XS.ifYes X3.here hexec rfl (pc0 := 5) rfl (hb hbytes d5) rfl (i0_ne_t (nz32 (by omega) l0)) (by decide) rfl ?_
    exact Steps.refl _)
  obtain ⟨T5, X5, q5, st5⟩ := X3.sget hexec hown (wk W (.fieldLink "java/lang/String" 38 "java/lang/String" "COMPACT_STRINGS" "Z")) s1 (fun _ _ h => by rw [hh3]; exact h) (g := (mkF m 27 #[.val (.ref a), .val (.ref b), .val (.int (Int32.ofNat o)), .val (.int (Int32.ofNat len)), .val .null, .unset] [])) rfl (hb hbytes d27)
  have hh5 := q5.trans hh3
  have c6 : Steps p.tables e below (s₁.setTop (entryFrame m #[.ref a, .ref b, .int (Int32.ofNat o), .int (Int32.ofNat len), .null] 6)) (T5.setTop (mkF m 30 #[.val (.ref a), .val (.ref b), .val (.int (Int32.ofNat o)), .val (.int (Int32.ofNat len)), .val .null, .unset] [.int z])) := c4.trans (st5 _ (Steps.refl _))
  have c7 : Steps p.tables e below (s₁.setTop (entryFrame m #[.ref a, .ref b, .int (Int32.ofNat o), .int (Int32.ofNat len), .null] 6)) (T5.setTop (mkF m 36 #[.val (.ref a), .val (.ref b), .val (.int (Int32.ofNat o)), .val (.int (Int32.ofNat len)), .val .null, .unset] [.int (Int32.ofNat len), .int (Int32.ofNat o), .ref b])) := c6.trans (by
    refine XS.ifNo X5.here hexec rfl (hb hbytes d30) rfl (i0_eq_f hz) ?_
    refine XS.aloadN X5.here hexec rfl (hb hbytes d33) rfl rfl ?_
    refine XS.iloadN X5.here hexec rfl (hb hbytes d34) rfl ?_
    refine XS.iloadN X5.here hexec rfl (hb hbytes d35) rfl ?_
    exact Steps.refl _)
  obtain ⟨v8, T8, X8, E8, g8⟩ := X5.callS hexec (Cmp3.law l b A o len) hown (wks W (staticW "java/lang/String" 177 Cmp3.yN)) (wk W Cmp3.tab) (W := 0) (Nat.le_of_ble_eq_true rfl) (Nat.le_of_ble_eq_true rfl) (Nat.le_refl _) (by show 0 + len ≤ len; omega) (g := (mkF m 36 #[.val (.ref a), .val (.ref b), .val (.int (Int32.ofNat o)), .val (.int (Int32.ofNat len)), .val .null, .unset] [.int (Int32.ofNat len), .int (Int32.ofNat o), .ref b])) rfl (by rw [hml]; rfl) c7 (argsL := [.ref b, .int (Int32.ofNat o), .int (Int32.ofNat len)]) (rest := []) rfl rfl (by show 2 * 0 + 0 ≤ _; decide) (hb hbytes d36) (⟨rfl, hA.mv X5.warmed.alike hh5, l1, l2, hp⟩)
  obtain ⟨e8, z8⟩ := E8
  obtain ⟨rfl, N, n1, n2, n3, n4, n5, n6⟩ := NewArr.mv _ T5 s _ _ hh5.symm (Vm.Alike.refl _) rfl e8
  rw [hh5] at z8
  have hB1 := hB.keep X8.warmed.alike (n6 _ _ hB.1)
  have hne : s.heap.size ≠ a := (Nat.ne_of_lt (Array.getElem?_eq_some_iff.mp hB.1).1).symm
  have c9 : Steps p.tables e below (s₁.setTop (entryFrame m #[.ref a, .ref b, .int (Int32.ofNat o), .int (Int32.ofNat len), .null] 6)) (T8.setTop (mkF m 39 #[.val (.ref a), .val (.ref b), .val (.int (Int32.ofNat o)), .val (.int (Int32.ofNat len)), .val .null, .unset] [.ref s.heap.size])) := g8
  have c10 : Steps p.tables e below (s₁.setTop (entryFrame m #[.ref a, .ref b, .int (Int32.ofNat o), .int (Int32.ofNat len), .null] 6)) (T8.setTop (mkF m 45 #[.val (.ref a), .val (.ref b), .val (.int (Int32.ofNat o)), .val (.int (Int32.ofNat len)), .val .null, .val (.ref s.heap.size)] [.int (Int32.ofNat N.slots.size), .ref s.heap.size, .ref a])) := by
    have hc : Steps p.tables e below (s₁.setTop (entryFrame m #[.ref a, .ref b, .int (Int32.ofNat o), .int (Int32.ofNat len), .null] 6)) (T8.setTop (mkF m 45 #[.val (.ref a), .val (.ref b), .val (.int (Int32.ofNat o)), .val (.int (Int32.ofNat len)), .val .null, .val (.ref s.heap.size)] [.int (Int32.ofNat len), .ref s.heap.size, .ref a])) := c9.trans (by
      refine XS.astore X8.here hexec rfl (hb hbytes d39) rfl rfl rfl ?_
      refine XS.aloadN X8.here hexec rfl (hb hbytes d41) rfl rfl ?_
      refine XS.aload X8.here hexec rfl (hb hbytes d42) rfl rfl ?_
      refine XS.iloadN X8.here hexec rfl (hb hbytes d44) rfl ?_
      exact Steps.refl _)
    rw [n4]; exact hc
  obtain ⟨v11, T11, X11, E11, g11⟩ := X8.callS hexec (CodL.law l s.heap.size N) hown (wks W (staticW "java/lang/String" 47 CodL.yN)) (wk W CodL.tab) (W := 1) (Nat.le_of_ble_eq_true rfl) (Nat.le_of_ble_eq_true rfl) (Nat.le_refl _) (by show 0 + len + 0 ≤ len; omega) (g := (mkF m 45 #[.val (.ref a), .val (.ref b), .val (.int (Int32.ofNat o)), .val (.int (Int32.ofNat len)), .val .null, .val (.ref s.heap.size)] [.int (Int32.ofNat N.slots.size), .ref s.heap.size, .ref a])) rfl (by rw [hml]; rfl) c10 (argsL := [.ref s.heap.size, .int (Int32.ofNat N.slots.size)]) (rest := [.ref a]) rfl rfl (by show 2 * 0 + (1 + 0) ≤ _; decide) (hb hbytes d45) (⟨rfl, n1⟩)
  obtain ⟨rfl, q11⟩ := E11
  have hB11 := hB1.mv (X8.warmed.alike.symm.trans X11.warmed.alike) q11
  have c12 : Steps p.tables e below (s₁.setTop (entryFrame m #[.ref a, .ref b, .int (Int32.ofNat o), .int (Int32.ofNat len), .null] 6)) (T11.setTop (mkF m 48 #[.val (.ref a), .val (.ref b), .val (.int (Int32.ofNat o)), .val (.int (Int32.ofNat len)), .val .null, .val (.ref s.heap.size)] [.int 0, .ref a])) := g11
  obtain ⟨T13, X13, p13, bl13, sl13, st13⟩ := X11.finit hexec hown (wk W (.fieldLink "java/lang/String" 15 "java/lang/String" "coder" "B")) (Or.inr ⟨_, (wk W (.laysFinal "java/lang/String" "java/lang/String" "coder" "B"))⟩) (Or.inl ⟨rfl, hnm⟩) f2 (Or.inl rfl) hB11 (t := .byte) (by decide +kernel) rfl (g := (mkF m 48 #[.val (.ref a), .val (.ref b), .val (.int (Int32.ofNat o)), .val (.int (Int32.ofNat len)), .val .null, .val (.ref s.heap.size)] [.int 0, .ref a])) rfl (rest := []) rfl (hb hbytes d48)
  have c14 : Steps p.tables e below (s₁.setTop (entryFrame m #[.ref a, .ref b, .int (Int32.ofNat o), .int (Int32.ofNat len), .null] 6)) (T13.setTop (mkF m 54 #[.val (.ref a), .val (.ref b), .val (.int (Int32.ofNat o)), .val (.int (Int32.ofNat len)), .val .null, .val (.ref s.heap.size)] [.ref s.heap.size, .ref a])) := (c12.trans (st13 _ (Steps.refl _))).trans (by
    refine XS.aloadN X13.here hexec rfl (hb hbytes d51) rfl rfl ?_
    refine XS.aload X13.here hexec rfl (hb hbytes d52) rfl rfl ?_
    exact Steps.refl _)
  obtain ⟨T15, X15, p15, bl15, sl15, st15⟩ := X13.finit hexec hown (wk W (.fieldLink "java/lang/String" 9 "java/lang/String" "value" "[B")) (Or.inr ⟨_, (wk W (.laysFinal "java/lang/String" "java/lang/String" "value" "[B"))⟩) (Or.inl ⟨rfl, hnm⟩) f1 (Or.inl rfl) bl13 (t := (.array .byte)) (by decide +kernel) rfl (g := (mkF m 54 #[.val (.ref a), .val (.ref b), .val (.int (Int32.ofNat o)), .val (.int (Int32.ofNat len)), .val .null, .val (.ref s.heap.size)] [.ref s.heap.size, .ref a])) rfl (rest := []) rfl (hb hbytes d54)
  have c16 : Steps p.tables e below (s₁.setTop (entryFrame m #[.ref a, .ref b, .int (Int32.ofNat o), .int (Int32.ofNat len), .null] 6)) (T15.setTop (mkF m 57 #[.val (.ref a), .val (.ref b), .val (.int (Int32.ofNat o)), .val (.int (Int32.ofNat len)), .val .null, .val (.ref s.heap.size)] [])) := c14.trans (st15 _ (Steps.refl _))
  have ap := apart (Or.inr ⟨_, (wk W (.laysFinal "java/lang/String" "java/lang/String" "value" "[B"))⟩) (Or.inr ⟨_, (wk W (.laysFinal "java/lang/String" "java/lang/String" "coder" "B"))⟩) f1 f2 (t₁ := .array .byte) (t₂ := .byte) (by decide +kernel) (by decide +kernel) (by decide)
  have al := X8.warmed.alike.symm.trans X15.warmed.alike
  have n7 : T11.heap[s.heap.size]? = some N := by rw [q11]; exact n1.1
  exact ⟨T15, none, _, _, _, X15, by simp, rfl, by omega, (fun _ => rfl), ⟨rfl, _, N, bl15, ((Same.refl D _).set _ (by simp)).set _ (by simp), sl15, (Cell.slots_setSlot_ne _ ap).trans sl13, n1.keep al (p15.other hne (p13.other hne n7)), n2, by rw [al.findClass]; exact n3, n4, n5, fun y c h1 h2 => p15.other h1 (p13.other h1 (by rw [q11]; exact n6 y c h2)), by rw [p15.2.2, p13.2.2, q11]; exact z8⟩, fun fs hl => c16.trans (X15.returnOut hexec hret (hb hbytes d57) hl)⟩
end New4
namespace New1
def yN : MethodName := ⟨"java/lang/String", "<init>", "([C)V"⟩
abbrev yB : ByteArray := jdk_42_method_3_code
theorem d0 : decode yB 0 = .ok (.aload_n 0, 1) := by decide +kernel
theorem d1 : decode yB 1 = .ok (.aload_n 1, 1) := by decide +kernel
theorem d2 : decode yB 2 = .ok (.iconst 0, 1) := by decide +kernel
theorem d3 : decode yB 3 = .ok (.aload_n 1, 1) := by decide +kernel
theorem d4 : decode yB 4 = .ok (.arraylength, 1) := by decide +kernel
theorem d5 : decode yB 5 = .ok (.aconst_null, 1) := by decide +kernel
theorem d6 : decode yB 6 = .ok (.invokespecial 27, 3) := by decide +kernel
theorem d9 : decode yB 9 = .ok (.return_, 1) := by decide +kernel
def site : List Cond := [New4.tab] ++ initW "java/lang/String" 27 New4.yN
def tab : Cond := tabOf yN yB 2 none site
def P (a : Addr) (D : Cell) (fV fC : Field) (b : Addr) (A : Cell) (z : Int32) (args : Array Value) (s : State) : Prop := args = #[.ref a, .ref b] ∧ Blank "java/lang/String" a D s ∧ Found "java/lang/String" "value" "[B" fV s ∧ Found "java/lang/String" "coder" "B" fC s ∧ Ch b A s ∧ StaticIs s "java/lang/String" "COMPACT_STRINGS" "Z" (.int z) ∧ ¬ z = 0 ∧ 0 < A.slots.size ∧ A.slots.size ≤ 536870912 ∧ ∀ i, i < A.slots.size → ¬ 255 < cv A i
def E (a : Addr) (D : Cell) (fV fC : Field) (A : Cell) (r : Option Value) (s u : State) : Prop := Got a D fV fC A 0 A.slots.size r s u
/-- new String(chars), not empty, no char above 255: a Latin-1 String of their low bytes -/
theorem law (l : Launch) (a : Addr) (D : Cell) (fV fC : Field) (b : Addr) (A : Cell) (z : Int32) : Law l yN 2 1 3 52 yB 2 none site (P a D fV fC b A z) (E a D fV fC A) [⟨a, fC.slot⟩, ⟨a, fV.slot⟩] 1 A.slots.size := by
  refine Law.of_walk (plainFor_of_name (by decide +kernel)) (by decide +kernel) (by decide +kernel) (by decide) (fun _ _ h => by rw [h.1]; rfl) (fun _ U U' hal hh h => ⟨h.1, h.2.1.mv hal hh, h.2.2.1.al hal, h.2.2.2.1.al hal, h.2.2.2.2.1.mv hal hh, h.2.2.2.2.2.1.there hal hh, h.2.2.2.2.2.2⟩) (fun r U U' V V' h1 hal h2 h => Got.mv r U U' V V' h1 hal h2 h) ?_
  intro p e s m args below meth c s₁ X0 hexec hbytes hml hret hlk hnm hown hh0 W hP
  obtain ⟨rfl, hB, f1, f2, hA, s1, hz, l0, l2, hp⟩ := hP
  have c1 : Steps p.tables e below (s₁.setTop (entryFrame m #[.ref a, .ref b] 2)) (s₁.setTop (mkF m 0 #[.val (.ref a), .val (.ref b)] [])) := entry rfl
  have c2 : Steps p.tables e below (s₁.setTop (entryFrame m #[.ref a, .ref b] 2)) (s₁.setTop (mkF m 6 #[.val (.ref a), .val (.ref b)] [.null, .int (Int32.ofNat A.slots.size), .int 0, .ref b, .ref a])) := c1.trans (by
    refine XS.aloadN X0.here hexec rfl (hb hbytes d0) rfl rfl ?_
    refine XS.aloadN X0.here hexec rfl (hb hbytes d1) rfl rfl ?_
    refine iconstV X0.here hexec rfl 0 (hb hbytes d2) (by decide) ?_
    refine XS.aloadN X0.here hexec rfl (hb hbytes d3) rfl rfl ?_
    refine X0.alen hexec (hA.1.mv X0.warmed.alike hh0) rfl rfl (hb hbytes d4) ?_
    refine XS.aconstNull X0.here hexec rfl (hb hbytes d5) ?_
    exact Steps.refl _)
  obtain ⟨v3, T3, X3, E3, g3⟩ := X0.callN hexec (New4.law l a D fV fC b A z 0 A.slots.size) rfl hown (wks W (initW "java/lang/String" 27 New4.yN)) (W New4.tab (by simp only [site, List.mem_cons, List.mem_append, true_or, or_true])) (W := 0) (Nat.le_of_ble_eq_true rfl) (Nat.le_of_ble_eq_true rfl) (Nat.le_refl _) (by show 0 + A.slots.size ≤ A.slots.size; omega) (g := (mkF m 6 #[.val (.ref a), .val (.ref b)] [.null, .int (Int32.ofNat A.slots.size), .int (Int32.ofNat 0), .ref b, .ref a])) rfl (by rw [hml]; rfl) c2 (argsL := [.ref b, .int (Int32.ofNat 0), .int (Int32.ofNat A.slots.size), .null]) (rest := []) rfl rfl (by show 2 * 0 + 0 ≤ _; decide) (hb hbytes d6) (⟨rfl, hB.mv X0.warmed.alike hh0, f1.al X0.warmed.alike, f2.al X0.warmed.alike, hA.mv X0.warmed.alike hh0, s1.there X0.warmed.alike hh0, hz, l0, by omega, l2, fun i hi => by rw [Nat.zero_add]; exact hp i hi⟩)
  have e0 := Got.mv _ s₁ s _ _ hh0.symm (Vm.Alike.refl _) rfl E3
  obtain rfl := e0.1
  have c4 : Steps p.tables e below (s₁.setTop (entryFrame m #[.ref a, .ref b] 2)) (T3.setTop (mkF m 9 #[.val (.ref a), .val (.ref b)] [])) := g3
  exact ⟨T3, none, _, _, _, X3, by simp, rfl, by omega, (fun _ => rfl), e0, fun fs hl => c4.trans (X3.returnOut hexec hret (hb hbytes d9) hl)⟩
theorem pays {l : Launch} {R : Room} {p : Program} {e : Env} {below : List Frame} {s : State} {sargs : Array Value} {len W : Nat} (a : Addr) (D : Cell) (fV fC : Field) (b : Addr) (A : Cell) (z : Int32) (htab : tab.before sargs s = true) (hfr : 4 ≤ R.frames) (hlo : W + 65 ≤ R.locals) :
    Back l R p e below s sargs yN len W (fun A₁ a₁ => A₁.cells + 1 ≤ R.cells ∧ A₁.slots + A.slots.size ≤ R.slots ∧ P a D fV fC b A z a₁ A₁.U) (fun A₁ _ v₁ B₁ => E a D fV fC A v₁ A₁.U B₁.U ∧ B₁.locs = A₁.locs ++ [⟨a, fC.slot⟩, ⟨a, fV.slot⟩] ∧ B₁.cells = A₁.cells + 1 ∧ B₁.slots = A₁.slots + A.slots.size) :=
  (law l a D fV fC b A z).pays htab hfr (by omega)
end New1
end StrChars
namespace StrChars.Road
open Jvm Sem ClassFile Op Lib Jvm.Stand Jvm.Free Jvm.Free.XT
open Jvm.Lib.Cold (StaticIs)
abbrev ST : String := "java/lang/String"
/-- every table word that New1's law asks, flat -/
abbrev words : List Jvm.Cond := [.code New1.yN New1.yB 2 none, .initialized ST, .methodLink ST 27 New4.yN, .instanceMethod New4.yN,
  .code New4.yN New4.yB 6 none, .fieldLink ST 38 ST "COMPACT_STRINGS" "Z", .laysFinal ST ST "value" "[B", .fieldLink ST 9 ST "value" "[B", .laysFinal ST ST "coder" "B", .fieldLink ST 15 ST "coder" "B",
  .methodLink ST 1 Lib.objectInit, .instanceMethod Lib.objectInit, .code Lib.objectInit ⟨#[0xb1]⟩ 1 none, .methodLink ST 177 Cmp3.yN, .static Cmp3.yN, .methodLink ST 47 CodL.yN, .static CodL.yN,
  .code Cmp3.yN Cmp3.yB 6 (some (.array .byte)), .initialized U16, .arrayClass .byte, .methodLink U16 115 Cmp5.yN, .static Cmp5.yN, .code Cmp5.yN Cmp5.yB 7 (some .int), .code CodL.yN CodL.yB 2 (some .byte)]
theorem tab_of {a : Array Value} {s : State} (h : ∀ w ∈ words, w.before a s = true) : New1.tab.before a s = true := by
  have h5 : Cmp5.tab.before a s = true := unparts (wk h (.code Cmp5.yN Cmp5.yB 7 (some .int))) (wks h (.initialized Cmp5.yN.cls :: Cmp5.site))
  have hc : CodL.tab.before a s = true := unparts (wk h (.code CodL.yN CodL.yB 2 (some .byte))) (wks h (.initialized CodL.yN.cls :: CodL.site))
  have q5 : ∀ w ∈ Cmp5.tab :: words, w.before a s = true := fun w hw => (List.mem_cons.mp hw).elim (fun e => e ▸ h5) (h w)
  have h3 : Cmp3.tab.before a s = true := unparts (wk q5 (.code Cmp3.yN Cmp3.yB 6 (some (.array .byte)))) (wks q5 (.initialized Cmp3.yN.cls :: Cmp3.site))
  have q3 : ∀ w ∈ Cmp3.tab :: CodL.tab :: words, w.before a s = true := fun w hw => (List.mem_cons.mp hw).elim (fun e => e ▸ h3) fun hw => (List.mem_cons.mp hw).elim (fun e => e ▸ hc) (h w)
  have h4 : New4.tab.before a s = true := unparts (wk q3 (.code New4.yN New4.yB 6 none)) (wks q3 (.initialized New4.yN.cls :: New4.site))
  have q4 : ∀ w ∈ New4.tab :: words, w.before a s = true := fun w hw => (List.mem_cons.mp hw).elim (fun e => e ▸ h4) (h w)
  exact unparts (wk q4 (.code New1.yN New1.yB 2 none)) (wks q4 (.initialized New1.yN.cls :: New1.site))
/-- the words ride from the start Z to the walk's own state -/
theorem moved {Z s : State} {a0 args : Array Value} (hZ : Z.Warmed39 s.vm) (hw : ∀ d ∈ words, d.before a0 Z = true) : ∀ d ∈ words, d.before args s = true := fun d hd => by
  have q := hw d hd
  have t : ∀ d ∈ words, d = .arrayClass .byte ∨ (d.onTables && d.keepsFace) = true := by decide +kernel
  rcases t d hd with rfl | t
  · exact RoadKit.mvA hZ q
  · exact RoadKit.mv hZ q t
/-- WHAT COMES BACK, over the tables of the start Z: h the heap at the call, h' behind it -/
def Q (Z : State) (x : Addr) (A : Cell) (h : Heap) (v : Option Value) (h' : Heap) (L : List Loc) : Prop := v = none ∧ (∀ y ∈ L, y.base = x) ∧ RoadKit.Keep h h' [x] ∧ h'.size = h.size + 1 ∧ RoadKit.Exa Z h' x ST ∧ RoadKit.Fld Z h' x ST "value" "[B" (.ref h.size) ∧ RoadKit.Fld Z h' x ST "coder" "B" (.int 0) ∧
  (∃ V : Cell, RoadKit.Arr Z h' h.size V .byte ∧ V.vm = .none ∧ Z.vm.findClass "[B" = some V.cls ∧ V.slots.size = A.slots.size ∧ ∀ j, j < A.slots.size → V.slots[j]? = some (.int (lo8 (cv A j)))) ∧
  ∀ (O n d : String) (w : Value), RoadKit.Fld Z h x O n d w → RoadKit.slotOf Z O n d ≠ RoadKit.slotOf Z ST "value" "[B" → RoadKit.slotOf Z O n d ≠ RoadKit.slotOf Z ST "coder" "B" → RoadKit.Fld Z h' x O n d w
/-- **new String(chars) AT A CALL, IN THE ROAD'S FORM**: for specialBack behind newO: x the fresh String, b the char[] with the cell A -/
theorem back {p : Program} {l : Launch} {e : Env} {R : Room} {s : State} {args : Array Value} {below : List Frame} {len W : Nat} {Z : State} {a0 : Array Value} {h : Heap} (hZ : Z.Warmed39 s.vm) (hw : ∀ d ∈ words, d.before a0 Z = true) {kI : Nat} (wi : (Jvm.Cond.instantiable ST kI).before a0 Z = true)
    {x b : Addr} {A : Cell} {z : Int32} {v0 c0 : Value} (E : RoadKit.Exa Z h x ST) (V : RoadKit.Fld Z h x ST "value" "[B" v0) (C : RoadKit.Fld Z h x ST "coder" "B" c0) (K : RoadKit.Arr Z h b A .char) (hty : Typed .char A) (S : RoadKit.Sta Z h ST "COMPACT_STRINGS" "Z" (.int z)) (hz : ¬ z = 0)
    (l0 : 0 < A.slots.size) (l2 : A.slots.size ≤ 536870912) (hp : ∀ i, i < A.slots.size → ¬ 255 < cv A i) (hfr : 4 ≤ R.frames) (hlo : W + 65 ≤ R.locals) :
    Back l R p e below s args New1.yN len W (fun P a => a = #[.ref x, .ref b] ∧ P.U.heap = h ∧ P.cells + 1 ≤ R.cells ∧ P.slots + A.slots.size ≤ R.slots)
      (fun P _ v B => ∃ L, Q Z x A h v B.U.heap L ∧ B.locs = P.locs ++ L ∧ B.cells = P.cells + 1 ∧ B.slots = P.slots + A.slots.size) := by
  intro m meth c P g ig mk a X hg hsize hdg hW hn hp'
  obtain ⟨rfl, rfl, r1, r2⟩ := hp'
  have al : Z.vm.Alike P.U.vm := hZ.alike.trans X.warmed.alike
  obtain ⟨D, cfV, kV, iV, fV, hD, gV, stV, knV, obV, asV, slV⟩ := id V
  obtain ⟨D', cfC, kC, iC, fC, hD', gC, stC, -, -, asC, slC⟩ := id C
  cases hD.symm.trans hD'
  obtain ⟨D2, kD, e1, e2, e3, e4, e5⟩ := id E
  cases hD.symm.trans e1
  obtain ⟨c2, k2, i1, i2, i3, -⟩ := Cond.instantiable_spec wi
  cases e2.symm.trans i1
  cases e3.symm.trans i2
  obtain ⟨kU, u1, u2⟩ := al.2.2 _ _ e3
  have hB : Blank ST x D P.U := ⟨hD, ⟨knV, fun q hq => by rw [hq] at obV; cases obV⟩, by rw [al.findClass]; exact e2, kU, u1, by rw [u2]; exact i3, by rw [u2]; exact e5 i3⟩
  have F1 : Found ST "value" "[B" fV P.U := ⟨SBG.found_only al ⟨cfV, kV, iV, gV⟩, stV⟩
  have F2 : Found ST "coder" "B" fC P.U := ⟨SBG.found_only al ⟨cfC, kC, iC, gC⟩, stC⟩
  have hA : Ch b A P.U := ⟨⟨K.1, State.isArrayOf_alike al K.2.1, K.2.2, by omega⟩, hty⟩
  have hS : StaticIs P.U ST "COMPACT_STRINGS" "Z" (.int z) := by
    obtain ⟨cfS, iS, kS, fS, st, cS, t1, t2, t3, t4, t5, t6, t7⟩ := S
    exact StaticIs.there (s := { Z with heap := P.U.heap }) ⟨cfS, iS, kS, fS, st, cS, t1, t2, t3, t4, t5, (fun q => by rw [q] at t6; cases t6), t7⟩ al rfl
  obtain ⟨v, B, X', ⟨⟨hv, E', V', q1, q2, q3, q4, q5, q6, q7, q8, q9, q10, q11⟩, hl, hc, hs⟩, st⟩ := New1.pays x D fV fC b A z (tab_of (moved hZ hw)) hfr hlo m meth c P g ig mk _ X hg hsize hdg hW hn ⟨r1, r2, rfl, hB, F1, F2, hA, hS, hz, l0, l2, hp⟩
  have al' : Z.vm.Alike B.U.vm := hZ.alike.trans X'.warmed.alike
  have hsz : E'.slots.size = D.slots.size := by
    obtain ⟨-, -, -, kB, w1, w2, w3⟩ := q1
    obtain ⟨kB', y1, y2⟩ := al'.2.2 _ _ e3
    rw [q2.2.1] at w1
    cases w1.symm.trans y1
    rw [w3, e5 i3, y2]
  refine ⟨v, B, X', ⟨_, ⟨hv, ?_, ⟨by omega, fun y cy hy hn' => q10 y cy (by simpa using hn') hy, fun y cy hy => ?_⟩, q11, ⟨E', _, q1.1, by rw [q2.2.1]; exact e2, by rw [q2.2.1]; exact e3, by rw [q2.1]; exact obV, fun _ => by rw [hsz]; exact e5 i3⟩,
    ⟨E', cfV, kV, iV, fV, q1.1, gV, stV, by rw [q2.1]; exact knV, by rw [q2.1]; exact obV, by rw [q2.2.1]; exact asV, q3⟩, ⟨E', cfC, kC, iC, fC, q1.1, gC, stC, by rw [q2.1]; exact knV, by rw [q2.1]; exact obV, by rw [q2.2.1]; exact asC, q4⟩,
    ⟨V', ⟨q5.1, State.isArrayOf_alike al'.symm q5.2.1, q5.2.2.1⟩, q6, by rw [← al'.findClass]; exact q7, q8, fun j hj => by have := q9 j hj; rwa [Nat.zero_add] at this⟩, fun O n d w F n1 n2 => ?_⟩, hl, hc, hs⟩, st⟩
  · intro y hy
    simp only [List.mem_cons, List.not_mem_nil, or_false] at hy
    rcases hy with rfl | rfl <;> rfl
  · by_cases q : y = x
    · subst q
      cases hD.symm.trans hy
      exact ⟨E', q1.1, q2.2.1, q2.1, hsz⟩
    · exact ⟨cy, q10 y cy q hy, rfl, rfl, rfl⟩
  · obtain ⟨D3, cf, k, i, f, g1, g2, g3, g4, g5, g6, g7⟩ := F
    cases hD.symm.trans g1
    simp only [RoadKit.slotOf, g2, gV, gC, Option.map_some, Option.getD_some] at n1 n2
    exact ⟨E', cf, k, i, f, q1.1, g2, g3, by rw [q2.1]; exact g4, by rw [q2.1]; exact g5, by rw [q2.2.1]; exact g6, by rw [q2.2.2 f.slot (by simp [n1, n2])]; exact g7⟩
end StrChars.Road
namespace StrChars.Road
open Jvm Sem ClassFile Op Lib Jvm.Stand Jvm.Free Jvm.Free.XT
/-- WHAT COMES BACK, the byte[] as a list of values -/
def QA (Z : State) (x : Addr) (zn : Int32) (cs : List Int32) (h : Heap) (v : Option Value) (h' : Heap) (L : List Loc) : Prop := v = none ∧ (∀ y ∈ L, y.base = x) ∧ RoadKit.Keep h h' [x] ∧ h'.size = h.size + 1 ∧ RoadKit.Exa Z h' x ST ∧ RoadKit.Fld Z h' x ST "value" "[B" (.ref h.size) ∧ RoadKit.Fld Z h' x ST "coder" "B" (.int 0) ∧
  (∃ kb, Z.vm.findClass "[B" = some kb ∧ RoadKit.Arv Z h' h.size kb .byte zn (cs.map fun c => .int (lo8 c)) (.int 0)) ∧
  ∀ (O n d : String) (w : Value), RoadKit.Fld Z h x O n d w → RoadKit.slotOf Z O n d ≠ RoadKit.slotOf Z ST "value" "[B" → RoadKit.slotOf Z O n d ≠ RoadKit.slotOf Z ST "coder" "B" → RoadKit.Fld Z h' x O n d w
/-- **new String(chars) AT A CALL, THE ARRAYS AS LISTS**: the char[] at b holds cs, not empty, no char above 255 -/
theorem backArv {p : Program} {l : Launch} {e : Env} {R : Room} {s : State} {args : Array Value} {below : List Frame} {len W : Nat} {Z : State} {a0 : Array Value} {h : Heap} (hZ : Z.Warmed39 s.vm) (hw : ∀ d ∈ words, d.before a0 Z = true) {kI : Nat} (wi : (Jvm.Cond.instantiable ST kI).before a0 Z = true)
    {x b : Addr} {k : ClassId} {zn z : Int32} {cs : List Int32} {dv v0 c0 : Value} (E : RoadKit.Exa Z h x ST) (V : RoadKit.Fld Z h x ST "value" "[B" v0) (C : RoadKit.Fld Z h x ST "coder" "B" c0) (K : RoadKit.Arv Z h b k .char zn (cs.map Value.int) dv) (S : RoadKit.Sta Z h ST "COMPACT_STRINGS" "Z" (.int z)) (hz : ¬ z = 0)
    (hlen : zn.toNatClampNeg = cs.length) (h0 : 0 < cs.length) (hbig : cs.length ≤ 536870912) (hall : ∀ c ∈ cs, ¬ 255 < c) (hfr : 4 ≤ R.frames) (hlo : W + 65 ≤ R.locals) :
    Back l R p e below s args New1.yN len W (fun P a => a = #[.ref x, .ref b] ∧ P.U.heap = h ∧ P.cells + 1 ≤ R.cells ∧ P.slots + cs.length ≤ R.slots)
      (fun P _ v B => ∃ L, QA Z x zn cs h v B.U.heap L ∧ B.locs = P.locs ++ L ∧ B.cells = P.cells + 1 ∧ B.slots = P.slots + cs.length) := by
  obtain ⟨A, K1, K2, K3, K4, K5, K6⟩ := K
  have e : A.slots.size = cs.length := K3.trans hlen
  have hat : ∀ (i : Nat) (hi : i < cs.length), A.slots[i]? = some (.int cs[i]) := fun i hi => by rw [K5 i (by omega)]; simp [List.getD_eq_getElem?_getD, hi]
  have hcv : ∀ (i : Nat) (hi : i < cs.length), cv A i = cs[i] := fun i hi => by unfold cv; rw [hat i hi]
  have hty : Typed .char A := fun i v hv => by
    have hi : i < A.slots.size := (Array.getElem?_eq_some_iff.mp hv).1
    have q := K5 i hi
    rw [hv] at q
    rw [Option.some.inj q]
    exact K6 i hi
  refine Back.mono (back hZ hw wi E V C K1 hty S hz (by omega) (by omega) (fun i hi => by rw [hcv i (by omega)]; exact hall _ (List.getElem_mem _)) hfr hlo) (fun P a hp => ⟨hp.1, hp.2.1, hp.2.2.1, by rw [e]; exact hp.2.2.2⟩) (fun P a v B hp hq => ?_)
  obtain ⟨L, ⟨q1, q2, q3, q4, q5, q6, q7, ⟨V', v1, v2, v3, v4, v5⟩, q9⟩, hl, hc, hs⟩ := hq
  refine ⟨L, ⟨q1, q2, q3, q4, q5, q6, q7, ⟨V'.cls, v3, V', v1, rfl, by rw [v4, e, hlen], K4, fun i hi => ?_, fun i hi => ?_⟩, q9⟩, hl, hc, by rw [hs, e]⟩
  · have hi' : i < cs.length := by omega
    rw [v5 i (by omega), hcv i hi']; simp [List.getD_eq_getElem?_getD, hi']
  · have hi' : i < cs.length := by omega
    simp only [List.getD_eq_getElem?_getD, List.getElem?_map, List.getElem?_eq_getElem hi', Option.map_some, Option.getD_some]
    exact fits_lo8 _
end StrChars.Road
namespace StrChars.Road
open Jvm Sem ClassFile Op Lib Jvm.Stand Jvm.Free Jvm.Free.XT
/-- WHAT COMES BACK, in the writer's own shape -/
def QV (Z : State) (x : Addr) (N : Int32) (bs : List Int32) (h : Heap) (n0 : Nat) (v : Option Value) (h' : Heap) (L : List Loc) : Prop := v = none ∧ RoadKit.Fr n0 L ∧ RoadKit.Keep h h' [x] ∧ RoadKit.Exa Z h' x ST ∧ RoadKit.Fld Z h' x ST "coder" "B" (.int 0) ∧
  ∃ (t : Addr) (kb : ClassId), n0 ≤ t ∧ h.size ≤ t ∧ ¬ t = x ∧ RoadKit.Fld Z h' x ST "value" "[B" (.ref t) ∧ RoadKit.Arv Z h' t kb .byte N (bs.map Value.int) (.int 0)
/-- **new String(chars) AT A CALL, FOR THE WRITER**: a char[] of n known ints, each 0 to 255 -/
theorem backV {p : Program} {l : Launch} {e : Env} {R : Room} {s : State} {args : Array Value} {below : List Frame} {len W : Nat} {Z : State} {a0 : Array Value} {h : Heap} (hZ : Z.Warmed39 s.vm) (hw : ∀ d ∈ words, d.before a0 Z = true) {kI : Nat} (wi : (Jvm.Cond.instantiable ST kI).before a0 Z = true)
    {x b : Addr} {kC : ClassId} {cs bs : List Int32} {d v0 c0 : Value} {z N : Int32} {n n0 : Nat} (hx0 : n0 ≤ x) (hh0 : n0 ≤ h.size) (E : RoadKit.Exa Z h x ST) (V : RoadKit.Fld Z h x ST "value" "[B" v0) (C : RoadKit.Fld Z h x ST "coder" "B" c0) (K : RoadKit.Arv Z h b kC .char N (cs.map Value.int) d) (S : RoadKit.Sta Z h ST "COMPACT_STRINGS" "Z" (.int z)) (hz : ¬ z = 0)
    (hn : cs.length = n) (hN : N = Int32.ofNat n) (l0 : 0 < n) (l2 : n ≤ 4000) (hp : ∀ c ∈ cs, ¬ c < 0 ∧ ¬ (255 : Int32) < c) (hb : bs = cs.map (fun c => c.toInt8.toInt32)) (hfr : 4 ≤ R.frames) (hlo : W + 65 ≤ R.locals) :
    Back l R p e below s args (⟨"java/lang/String", "<init>", "([C)V"⟩ : MethodName) len W (fun P a => a = #[.ref x, .ref b] ∧ P.U.heap = h ∧ P.cells + 1 ≤ R.cells ∧ P.slots + n ≤ R.slots)
      (fun P _ v B => ∃ L, QV Z x N bs h n0 v B.U.heap L ∧ B.locs = P.locs ++ L ∧ B.cells = P.cells + 1 ∧ B.slots = P.slots + n) := by
  subst hn hN hb
  refine Back.mono (backArv hZ hw wi E V C K S hz (n32 (by omega)) l0 (by omega) (fun c hc => (hp c hc).2) hfr hlo) (fun P a hp => hp) (fun P a v B hp hq => ?_)
  obtain ⟨L, ⟨q1, q2, q3, q4, q5, q6, q7, ⟨kb, v1, v2⟩, q9⟩, hl, hc, hs⟩ := hq
  exact ⟨L, ⟨q1, fun y hy => by rw [q2 y hy]; exact hx0, q3, q5, q7, h.size, kb, hh0, Nat.le_refl _, Nat.ne_of_gt E.lt, q6, by rw [List.map_map]; exact v2⟩, hl, hc, hs⟩
end StrChars.Road
end Jvm.Pilot.@@N@@
namespace Jvm.Pilot.@@N@@
open Jvm Jvm.ClassFile Sem Op Lib Jvm.Free Jvm.Stand Jvm.LawKit Jvm.RoadKit Bundle Jvm.Pilot.@@N@@.Jvm.D

theorem own_c255 (x : Int32) : ¬ ((x &&& (255 : Int32)).toUInt32.toUInt16.toUInt32.toInt32) < 0 ∧ ¬ (255 : Int32) < ((x &&& (255 : Int32)).toUInt32.toUInt16.toUInt32.toInt32) := by
  have h1 := c_and x (255 : Int32) (by decide)
  have h2 := c_i2c (x &&& (255 : Int32))
  have e0 : (0 : Int32).toInt = 0 := rfl
  have e1 : (255 : Int32).toInt = 255 := rfl
  rw [e1] at h1
  simp only [Int32.lt_iff_toInt_lt, e0, e1]
  omega
theorem own_nc {c : Int32} (h : ¬ c < 0 ∧ ¬ (255 : Int32) < c) : nar .char c = c := by
  have h2 := c_i2c c
  have e0 : (0 : Int32).toInt = 0 := rfl
  have e1 : (255 : Int32).toInt = 255 := rfl
  simp only [Int32.lt_iff_toInt_lt, e0, e1] at h
  apply Int32.toInt_inj.mp
  show c.toUInt32.toUInt16.toUInt32.toInt32.toInt = _
  omega
theorem own_fc {c : Int32} (h : ¬ c < 0 ∧ ¬ (255 : Int32) < c) : fits .char (.int c) = true := by
  have q := fits_nar_char c
  rwa [own_nc h] at q

theorem own_toInt {n : Nat} (h : n < 2147483648) : (Int32.ofNat n).toInt = n := Int32.toInt_ofNat_of_lt h
theorem own_rng (x : Int32) : -2147483648 ≤ x.toInt ∧ x.toInt < 2147483648 := ⟨Int32.le_toInt x, Int32.toInt_lt x⟩
theorem own_rngL (x : Int64) : -9223372036854775808 ≤ x.toInt ∧ x.toInt < 9223372036854775808 := ⟨Int64.le_toInt x, Int64.toInt_lt x⟩
/-- an int that is n, read modulo 2^32 -/
theorem own_of (x : Int32) (n : Nat) (hn : n < 2147483648) (h : (x.toInt - n) % 4294967296 = 0) : x = Int32.ofNat n := by
  apply Int32.toInt_inj.mp
  rw [own_toInt hn]
  have := own_rng x
  omega
theorem own_lt {i n : Nat} (hi : i < 2147483648) (hn : n < 2147483648) : Int32.ofNat i < Int32.ofNat n ↔ i < n := by
  rw [Int32.lt_iff_toInt_lt, own_toInt hi, own_toInt hn]; omega
theorem own_add (a b : Nat) : Int32.ofNat a + Int32.ofNat b = Int32.ofNat (a + b) := (Int32.ofNat_add a b).symm
theorem own_clamp {n : Nat} (h : n < 2147483648) : (Int32.ofNat n).toNatClampNeg = n := by simp [Int32.toNatClampNeg, own_toInt h]
theorem own_toIntL {n : Nat} (h : n < 4294967296) : (Int64.ofNat n).toInt = n := Int64.toInt_ofNat_of_lt (by omega)
theorem own_l2i {u : Nat} (h : u < 4294967296) : ((Int64.ofNat u).toInt32.toInt - u) % 4294967296 = 0 := by
  have q := c_l2i (Int64.ofNat u)
  rw [own_toIntL h] at q; exact q
/-- a natural as an int, wrapped -/
theorem own_l2iEq {u : Nat} : (Int64.ofNat u).toInt32 = Int32.ofNat u := Int64.toInt32_ofNat
theorem own_wrap (u : Nat) : ((Int32.ofNat u).toInt - u) % 4294967296 = 0 := by
  rw [Int32.toInt_ofNat']; exact bm32 _
theorem own_hi {u : Nat} (h : u < 4294967296) : ((((Int64.ofNat u).toUInt64 >>> ((32 : Int32) &&& 0x3f).toInt64.toUInt64).toInt64).toInt32) = 0 := by
  have q := c_lushr (Int64.ofNat u) 32 32 (by decide) (by decide)
  rw [own_toIntL h] at q
  have q2 := c_l2i (((Int64.ofNat u).toUInt64 >>> ((32 : Int32) &&& 0x3f).toInt64.toUInt64).toInt64)
  rw [q] at q2
  have q3 := own_rng ((((Int64.ofNat u).toUInt64 >>> ((32 : Int32) &&& 0x3f).toInt64.toUInt64).toInt64).toInt32)
  apply Int32.toInt_inj.mp
  show _ = (0 : Int)
  have e : ((2 ^ 32 : Nat) : Int) = 4294967296 := by decide
  rw [e] at q2
  omega
theorem own_dec {e b : Nat} (h : e + b ≤ 31) (y : Int32) (hy : y.toInt = -b) : Int32.ofNat (31 - e) + y = Int32.ofNat (31 - (e + b)) := by
  refine own_of _ _ (by omega) ?_
  have q := c_iadd (Int32.ofNat (31 - e)) y
  rw [own_toInt (by omega), hy] at q
  omega
theorem own_ush {x : Nat} (hx : x < 2147483648) (y : Int32) (k : Nat) (hk : y.toBitVec.toNat % 32 = k) (h0 : 0 < k) : (((Int32.ofNat x).toUInt32 >>> (y &&& 31).toUInt32).toInt32) = Int32.ofNat (x / 2 ^ k) := by
  have hd : x / 2 ^ k ≤ x := Nat.div_le_self _ _
  refine own_of _ _ (by omega) ?_
  rw [c_iushr (Int32.ofNat x) y k hk h0, own_toInt hx]
  have e : ((x : Int) % 4294967296) = x := by omega
  rw [e, ← Int.natCast_ediv]; omega
theorem own_log1 {u e : Nat} (h : u / 2 ^ e = 1) : Nat.log2 u = e := by
  have hp : 0 < 2 ^ e := Nat.two_pow_pos e
  have hm := Nat.div_add_mod u (2 ^ e)
  have hl := Nat.mod_lt u hp
  rw [h] at hm
  refine (Nat.log2_eq_iff (by omega)).mpr ⟨by omega, by rw [Nat.pow_succ]; omega⟩
theorem own_log2 {u e : Nat} (h : u / 2 ^ e = 2 ∨ u / 2 ^ e = 3) : Nat.log2 u = e + 1 := by
  have hp : 0 < 2 ^ e := Nat.two_pow_pos e
  have hm := Nat.div_add_mod u (2 ^ e)
  have hl := Nat.mod_lt u hp
  have e1 : 2 ^ (e + 1) = 2 ^ e * 2 := Nat.pow_succ ..
  have e2 : 2 ^ (e + 1 + 1) = 2 ^ e * 4 := by rw [Nat.pow_succ, e1]; omega
  refine (Nat.log2_eq_iff (by rcases h with h | h <;> rw [h] at hm <;> omega)).mpr ⟨by rw [e1]; rcases h with h | h <;> rw [h] at hm <;> omega, by rw [e2]; rcases h with h | h <;> rw [h] at hm <;> omega⟩
/-- the last step of Integer.numberOfLeadingZeros -/
theorem own_nlzEnd {u e : Nat} (he : e ≤ 30) (h1 : 1 ≤ u / 2 ^ e) (h2 : u / 2 ^ e < 4) : Int32.ofNat (31 - e) - (((Int32.ofNat (u / 2 ^ e)).toUInt32 >>> ((1 : Int32) &&& 31).toUInt32).toInt32) = Int32.ofNat (31 - Nat.log2 u) := by
  rw [own_ush (by omega) (1 : Int32) 1 (by decide) (by decide)]
  refine own_of _ _ (by omega) ?_
  have q := c_isub (Int32.ofNat (31 - e)) (Int32.ofNat (u / 2 ^ e / 2 ^ 1))
  rw [own_toInt (by omega), own_toInt (by omega)] at q
  have h3 : u / 2 ^ e = 1 ∨ (u / 2 ^ e = 2 ∨ u / 2 ^ e = 3) := by omega
  rcases h3 with h3 | h3
  · rw [own_log1 h3]; omega
  · rw [own_log2 h3]; rcases h3 with h3 | h3 <;> omega
theorem own_div2 (u e k : Nat) : u / 2 ^ e / 2 ^ k = u / 2 ^ (e + k) := by rw [Nat.div_div_eq_div_mul, Nat.pow_add]
theorem own_shl {u e k B : Nat} (h : u / 2 ^ e < 2 ^ k * B) : u / 2 ^ (e + k) < B := by
  rw [← own_div2]; exact Nat.div_lt_of_lt_mul h
theorem own_shg {u e k : Nat} (h : 2 ^ k ≤ u / 2 ^ e) : 1 ≤ u / 2 ^ (e + k) := by
  rw [← own_div2]; exact (Nat.one_le_div_iff (Nat.two_pow_pos k)).mpr h
theorem own_log31 {u : Nat} (h1 : 2147483648 ≤ u) (h2 : u < 4294967296) : Nat.log2 u = 31 := (Nat.log2_eq_iff (by omega)).mpr ⟨by omega, by omega⟩
/-- the place of a value -/
def own_bk (u : Nat) : Nat := if u < 4096 then u else 4096 + (Nat.log2 u - 12) * 2048 + u / 2 ^ (Nat.log2 u - 11) - 2048
theorem own_L {u : Nat} (h1 : 4096 ≤ u) (h2 : u < 4294967296) : 12 ≤ Nat.log2 u ∧ Nat.log2 u ≤ 31 :=
  ⟨(Nat.le_log2 (by omega)).mpr (by omega), by have := (Nat.log2_lt (show u ≠ 0 by omega) (k := 32)).mpr (by omega); omega⟩
theorem own_top {u : Nat} (h1 : 4096 ≤ u) (h2 : u < 4294967296) : 2048 ≤ u / 2 ^ (Nat.log2 u - 11) ∧ u / 2 ^ (Nat.log2 u - 11) < 4096 := by
  obtain ⟨l1, l2⟩ := own_L h1 h2
  have a := Nat.log2_self_le (show u ≠ 0 by omega)
  have b : u < 2 ^ (Nat.log2 u + 1) := Nat.lt_log2_self
  have e1 : 2 ^ Nat.log2 u = 2048 * 2 ^ (Nat.log2 u - 11) := by rw [show (2048 : Nat) = 2 ^ 11 from rfl, ← Nat.pow_add]; congr 1; omega
  have e2 : 2 ^ (Nat.log2 u + 1) = 2 ^ (Nat.log2 u - 11) * 4096 := by rw [show (4096 : Nat) = 2 ^ 12 from rfl, ← Nat.pow_add]; congr 1; omega
  exact ⟨(Nat.le_div_iff_mul_le (Nat.two_pow_pos _)).mpr (by omega), Nat.div_lt_of_lt_mul (by omega)⟩
theorem own_bk_lt {u : Nat} (h : u < 4294967296) : own_bk u < 45056 := by
  unfold own_bk
  split
  · omega
  · obtain ⟨l1, l2⟩ := own_L (by omega) h
    obtain ⟨t1, t2⟩ := own_top (by omega) h
    omega
theorem own_sh {L : Nat} (h1 : 12 ≤ L) (h2 : L ≤ 31) : (64 : Int32) - Int32.ofNat (63 - L) - (12 : Int32) = Int32.ofNat (L - 11) := by
  refine own_of _ _ (by omega) ?_
  have q1 := c_isub (64 : Int32) (Int32.ofNat (63 - L))
  have q2 := c_isub ((64 : Int32) - Int32.ofNat (63 - L)) (12 : Int32)
  rw [own_toInt (by omega)] at q1
  have e1 : (64 : Int32).toInt = 64 := rfl
  have e2 : (12 : Int32).toInt = 12 := rfl
  rw [e1] at q1; rw [e2] at q2
  omega
theorem own_lsh {u : Nat} (h : u < 4294967296) {s : Nat} (h1 : 1 ≤ s) (h2 : s ≤ 31) : ((((Int64.ofNat u).toUInt64 >>> ((Int32.ofNat s) &&& 0x3f).toInt64.toUInt64).toInt64).toInt32.toInt - (u / 2 ^ s : Nat)) % 4294967296 = 0 := by
  have hk : (Int32.ofNat s).toBitVec.toNat % 64 = s := by
    have : (Int32.ofNat s).toBitVec.toNat = s := by
      show (BitVec.ofNat 32 s).toNat = s
      rw [BitVec.toNat_ofNat]; omega
    rw [this]; omega
  have q := c_lushr (Int64.ofNat u) (Int32.ofNat s) s hk (by omega)
  rw [own_toIntL h] at q
  have e : ((u : Int) % 18446744073709551616) = u := by omega
  rw [e, ← Int.natCast_ediv] at q
  have q2 := c_l2i (((Int64.ofNat u).toUInt64 >>> ((Int32.ofNat s) &&& 0x3f).toInt64.toUInt64).toInt64)
  rw [q] at q2; exact q2
theorem own_bkEnd {u : Nat} (h1 : 4096 ≤ u) (h2 : u < 4294967296) : (4096 : Int32) + (Int32.ofNat (Nat.log2 u - 11) - (1 : Int32)) * (2048 : Int32) + (((Int64.ofNat u).toUInt64 >>> ((Int32.ofNat (Nat.log2 u - 11)) &&& 0x3f).toInt64.toUInt64).toInt64).toInt32 - (2048 : Int32) = Int32.ofNat (own_bk u) := by
  obtain ⟨l1, l2⟩ := own_L h1 h2
  obtain ⟨t1, t2⟩ := own_top h1 h2
  have hb := own_bk_lt h2
  refine own_of _ _ (by omega) ?_
  have q0 := own_lsh h2 (s := Nat.log2 u - 11) (by omega) (by omega)
  generalize (((Int64.ofNat u).toUInt64 >>> ((Int32.ofNat (Nat.log2 u - 11)) &&& 0x3f).toInt64.toUInt64).toInt64).toInt32 = y at q0 ⊢
  have e1 : (1 : Int32).toInt = 1 := rfl
  have e2 : (2048 : Int32).toInt = 2048 := rfl
  have e3 : (4096 : Int32).toInt = 4096 := rfl
  have q1 := c_isub (Int32.ofNat (Nat.log2 u - 11)) (1 : Int32)
  rw [own_toInt (by omega), e1] at q1
  have q2 := c_imul (Int32.ofNat (Nat.log2 u - 11) - (1 : Int32)) (2048 : Int32)
  have q3 := c_iadd (4096 : Int32) ((Int32.ofNat (Nat.log2 u - 11) - (1 : Int32)) * (2048 : Int32))
  have q4 := c_iadd ((4096 : Int32) + (Int32.ofNat (Nat.log2 u - 11) - (1 : Int32)) * (2048 : Int32)) y
  have q5 := c_isub ((4096 : Int32) + (Int32.ofNat (Nat.log2 u - 11) - (1 : Int32)) * (2048 : Int32) + y) (2048 : Int32)
  rw [e2] at q2 q5; rw [e3] at q3
  have r1 := own_rng (Int32.ofNat (Nat.log2 u - 11) - (1 : Int32))
  have ev : own_bk u = 4096 + (Nat.log2 u - 12) * 2048 + u / 2 ^ (Nat.log2 u - 11) - 2048 := by unfold own_bk; rw [if_neg (by omega)]
  rw [ev]
  generalize u / 2 ^ (Nat.log2 u - 11) = z at *
  generalize Nat.log2 u = L at *
  omega
theorem own_bkLow {u : Nat} (h : u < 4096) : (Int64.ofNat u).toInt32 = Int32.ofNat (own_bk u) := by
  rw [own_l2iEq, own_bk, if_pos h]
/-! an array of 45,056 longs by its places -/
def Cnt (Z : State) (h : Heap) (a : Addr) (f : Nat → Int64) : Prop := ∃ c : Cell, Arr Z h a c .long ∧ c.slots.size = 45056 ∧ ∀ j, j < 45056 → c.slots[j]? = some (.long (f j))
section Counts
variable {Z : State} {h h' : Heap} {a b : Addr} {f : Nat → Int64} {v : Value} {sl : Nat} {ws : List Addr}
theorem Cnt.lt (F : Cnt Z h a f) : a < h.size := by obtain ⟨c, A, -⟩ := F; exact A.lt
theorem Cnt.ext (F : Cnt Z h a f) (E : Ext h h') : Cnt Z h' a f := by obtain ⟨c, A, r⟩ := F; exact ⟨c, A.ext E, r⟩
theorem Cnt.other (F : Cnt Z h b f) (W : Wr h h' a sl v) (q : b ≠ a) : Cnt Z h' b f := by obtain ⟨c, A, r⟩ := F; exact ⟨c, A.other W q, r⟩
theorem Cnt.keep (F : Cnt Z h a f) (K : Keep h h' ws) (q : a ∉ ws) : Cnt Z h' a f := by obtain ⟨c, A, r⟩ := F; exact ⟨c, ⟨K.2.1 a c A.1 q, A.2⟩, r⟩
theorem Cnt.new {k : ClassId} (A : Arr Z h a (newA k .long (45056 : Int32)) .long) : Cnt Z h a (fun _ => 0) := by
  have e : (45056 : Int32).toNatClampNeg = 45056 := by decide
  refine ⟨_, A, by rw [sz_new, e], fun j hj => ?_⟩
  simp [newA, e, hj, defaultValue]
theorem own_csz {c : Cell} (S : c.slots.size = 45056) : c.slots.size.toInt32 = (45056 : Int32) := by rw [S]; decide
theorem own_cin {c : Cell} (S : c.slots.size = 45056) {i : Nat} (hi : i < 45056) : ¬ (Int32.ofNat i < 0 ∨ c.slots.size ≤ (Int32.ofNat i).toNatClampNeg) := by
  rw [S, own_clamp (by omega), Int32.lt_iff_toInt_lt, own_toInt (by omega)]
  have e0 : (0 : Int32).toInt = 0 := rfl
  omega
theorem own_cat {c : Cell} (H : ∀ j, j < 45056 → c.slots[j]? = some (.long (f j))) {i : Nat} (hi : i < 45056) : c.slots[(Int32.ofNat i).toNatClampNeg]? = some (.long (f i)) := by
  rw [own_clamp (by omega)]; exact H i hi
theorem Cnt.set {c : Cell} {i : Nat} {x : Int64} (A : Arr Z h a c .long) (S : c.slots.size = 45056) (H : ∀ j, j < 45056 → c.slots[j]? = some (.long (f j))) (W : Wr h h' a (Int32.ofNat i).toNatClampNeg (.long x)) (hi : i < 45056) : Cnt Z h' a (fun j => if j = i then x else f j) := by
  rw [own_clamp (by omega)] at W
  refine ⟨_, A.same W, by rw [sz_set]; exact S, fun j hj => ?_⟩
  show (c.slots.setIfInBounds i (.long x))[j]? = _
  by_cases q : j = i
  · subst q; rw [Array.getElem?_setIfInBounds_self_of_lt (by omega)]; simp
  · rw [Array.getElem?_setIfInBounds_ne (Ne.symm q), H j hj]; simp [q]
end Counts

theorem d11_0 : decode jdk_33_method_47_code 0 = .ok (.iload_n 0, 1) := by decide +kernel
theorem d11_1 : decode jdk_33_method_47_code 1 = .ok (.ifCond .gt 14, 3) := by decide +kernel
theorem d11_4 : decode jdk_33_method_47_code 4 = .ok (.iload_n 0, 1) := by decide +kernel
theorem d11_5 : decode jdk_33_method_47_code 5 = .ok (.ifCond .ne 8, 3) := by decide +kernel
theorem d11_8 : decode jdk_33_method_47_code 8 = .ok (.bipush 32, 2) := by decide +kernel
theorem d11_10 : decode jdk_33_method_47_code 10 = .ok (.goto 4, 3) := by decide +kernel
theorem d11_13 : decode jdk_33_method_47_code 13 = .ok (.iconst 0, 1) := by decide +kernel
theorem d11_14 : decode jdk_33_method_47_code 14 = .ok (.ireturn, 1) := by decide +kernel
theorem d11_15 : decode jdk_33_method_47_code 15 = .ok (.bipush 31, 2) := by decide +kernel
theorem d11_17 : decode jdk_33_method_47_code 17 = .ok (.istore_n 1, 1) := by decide +kernel
theorem d11_18 : decode jdk_33_method_47_code 18 = .ok (.iload_n 0, 1) := by decide +kernel
theorem d11_19 : decode jdk_33_method_47_code 19 = .ok (.ldc_w 264, 3) := by decide +kernel
theorem d11_22 : decode jdk_33_method_47_code 22 = .ok (.if_icmp .lt 11, 3) := by decide +kernel
theorem d11_25 : decode jdk_33_method_47_code 25 = .ok (.iinc 1 (-16), 3) := by decide +kernel
theorem d11_28 : decode jdk_33_method_47_code 28 = .ok (.iload_n 0, 1) := by decide +kernel
theorem d11_29 : decode jdk_33_method_47_code 29 = .ok (.bipush 16, 2) := by decide +kernel
theorem d11_31 : decode jdk_33_method_47_code 31 = .ok (.iushr, 1) := by decide +kernel
theorem d11_32 : decode jdk_33_method_47_code 32 = .ok (.istore_n 0, 1) := by decide +kernel
theorem d11_33 : decode jdk_33_method_47_code 33 = .ok (.iload_n 0, 1) := by decide +kernel
theorem d11_34 : decode jdk_33_method_47_code 34 = .ok (.sipush 256, 3) := by decide +kernel
theorem d11_37 : decode jdk_33_method_47_code 37 = .ok (.if_icmp .lt 11, 3) := by decide +kernel
theorem d11_40 : decode jdk_33_method_47_code 40 = .ok (.iinc 1 (-8), 3) := by decide +kernel
theorem d11_43 : decode jdk_33_method_47_code 43 = .ok (.iload_n 0, 1) := by decide +kernel
theorem d11_44 : decode jdk_33_method_47_code 44 = .ok (.bipush 8, 2) := by decide +kernel
theorem d11_46 : decode jdk_33_method_47_code 46 = .ok (.iushr, 1) := by decide +kernel
theorem d11_47 : decode jdk_33_method_47_code 47 = .ok (.istore_n 0, 1) := by decide +kernel
theorem d11_48 : decode jdk_33_method_47_code 48 = .ok (.iload_n 0, 1) := by decide +kernel
theorem d11_49 : decode jdk_33_method_47_code 49 = .ok (.bipush 16, 2) := by decide +kernel
theorem d11_51 : decode jdk_33_method_47_code 51 = .ok (.if_icmp .lt 10, 3) := by decide +kernel
theorem d11_54 : decode jdk_33_method_47_code 54 = .ok (.iinc 1 (-4), 3) := by decide +kernel
theorem d11_57 : decode jdk_33_method_47_code 57 = .ok (.iload_n 0, 1) := by decide +kernel
theorem d11_58 : decode jdk_33_method_47_code 58 = .ok (.iconst 4, 1) := by decide +kernel
theorem d11_59 : decode jdk_33_method_47_code 59 = .ok (.iushr, 1) := by decide +kernel
theorem d11_60 : decode jdk_33_method_47_code 60 = .ok (.istore_n 0, 1) := by decide +kernel
theorem d11_61 : decode jdk_33_method_47_code 61 = .ok (.iload_n 0, 1) := by decide +kernel
theorem d11_62 : decode jdk_33_method_47_code 62 = .ok (.iconst 4, 1) := by decide +kernel
theorem d11_63 : decode jdk_33_method_47_code 63 = .ok (.if_icmp .lt 10, 3) := by decide +kernel
theorem d11_66 : decode jdk_33_method_47_code 66 = .ok (.iinc 1 (-2), 3) := by decide +kernel
theorem d11_69 : decode jdk_33_method_47_code 69 = .ok (.iload_n 0, 1) := by decide +kernel
theorem d11_70 : decode jdk_33_method_47_code 70 = .ok (.iconst 2, 1) := by decide +kernel
theorem d11_71 : decode jdk_33_method_47_code 71 = .ok (.iushr, 1) := by decide +kernel
theorem d11_72 : decode jdk_33_method_47_code 72 = .ok (.istore_n 0, 1) := by decide +kernel
theorem d11_73 : decode jdk_33_method_47_code 73 = .ok (.iload_n 1, 1) := by decide +kernel
theorem d11_74 : decode jdk_33_method_47_code 74 = .ok (.iload_n 0, 1) := by decide +kernel
theorem d11_75 : decode jdk_33_method_47_code 75 = .ok (.iconst 1, 1) := by decide +kernel
theorem d11_76 : decode jdk_33_method_47_code 76 = .ok (.iushr, 1) := by decide +kernel
theorem d11_77 : decode jdk_33_method_47_code 77 = .ok (.isub, 1) := by decide +kernel
theorem d11_78 : decode jdk_33_method_47_code 78 = .ok (.ireturn, 1) := by decide +kernel
theorem pd__40__91_C_41_V : parseMethodDescriptor "([C)V" = some ⟨[(.array .char)], none⟩ := by decide +kernel
theorem pd__40__91_CIILjava_47_lang_47_Void_59__41_V : parseMethodDescriptor "([CIILjava/lang/Void;)V" = some ⟨[(.array .char), .int, .int, (.object "java/lang/Void")], none⟩ := by decide +kernel
theorem pd__40__41_V : parseMethodDescriptor "()V" = some ⟨[], none⟩ := by decide +kernel
theorem pd__40__91_CII_41__91_B : parseMethodDescriptor "([CII)[B" = some ⟨[(.array .char), .int, .int], some (.array .byte)⟩ := by decide +kernel
theorem pd__40__91_CI_91_BII_41_I : parseMethodDescriptor "([CI[BII)I" = some ⟨[(.array .char), .int, (.array .byte), .int, .int], some .int⟩ := by decide +kernel
theorem pd__40__91_BI_41_B : parseMethodDescriptor "([BI)B" = some ⟨[(.array .byte), .int], some .byte⟩ := by decide +kernel
theorem pd__40_J_41_I : parseMethodDescriptor "(J)I" = some ⟨[.long], some .int⟩ := by decide +kernel
theorem pd__40_I_41_I : parseMethodDescriptor "(I)I" = some ⟨[.int], some .int⟩ := by decide +kernel
theorem pd__40__41_J : parseMethodDescriptor "()J" = some ⟨[], some .long⟩ := by decide +kernel
theorem pd__40__41_Ljava_47_lang_47_String_59_ : parseMethodDescriptor "()Ljava/lang/String;" = some ⟨[], some (.object "java/lang/String")⟩ := by decide +kernel
theorem pd__40_Ljava_47_lang_47_String_59__41_V : parseMethodDescriptor "(Ljava/lang/String;)V" = some ⟨[(.object "java/lang/String")], none⟩ := by decide +kernel
theorem ef_11 (m : MethodId) (x0 : Int32) : entryFrame m #[(.int x0)] 2 = mkF m 0 #[.val (.int x0), .unset] [] := by first | (simp [entryFrame, mkF, argsToLocals, Value.category]; done) | rfl
def Q11 (Z : State) (p1 : Int32) (u : Nat) (h0 : Heap) (n0 : Nat) (v : Option Value) (h : Heap) (L : List Loc) : Prop := v = some (.int (Int32.ofNat (31 - Nat.log2 u))) ∧ Fr n0 L ∧ h = h0
theorem pn_java_lang_Integer : plainName "java/lang/Integer" = true := by first | (simp [plainName, overriddenIn]; done) | decide +kernel
set_option maxRecDepth 65536 in
set_option maxHeartbeats 40000000 in
theorem rm11 (l : Launch) (Z : State) (a0 : Array Value) (hw : ∀ d ∈ tables_1, d.before a0 Z = true) (ws : List Jvm.Cond) (p1 : Int32) (u : Nat) (h0 : Heap) (n0 : Nat) (Z0 : n0 ≤ h0.size) (hu : p1 = Int32.ofNat u) (hu1 : 2147483648 ≤ u) (hu2 : u < 4294967296) :
    MetFree l (⟨"java/lang/Integer", "numberOfLeadingZeros", "(I)I"⟩ : MethodName) (head1 (Jvm.Cond.code (⟨"java/lang/Integer", "numberOfLeadingZeros", "(I)I"⟩ : MethodName) jdk_33_method_47_code 2 (some .int) :: ws) ({ frames := 0, cells := 0, slots := 0, locals := 0 } : Room)) (fun a U => a = #[(.int p1)] ∧ Z.Warmed39 U.vm ∧ U.heap = h0) (fun _ _ _ _ _ => True) (fun _ U o U' => ∃ v L, o = .returned v ∧ Q11 Z p1 u h0 n0 v U'.heap L ∧ FrameEnd U o U' L ({ frames := 0, cells := 0, slots := 0, locals := 0 } : Room).cells ({ frames := 0, cells := 0, slots := 0, locals := 0 } : Room).slots) := by
  refine MetFree.of_bodySF (plainFor_of_name pn_java_lang_Integer) hisR ?_
  intro p e s m args below meth c s₁ Bd hml0 hP hK
  obtain ⟨rfl, hZ, hh⟩ := hP
  have hx := Bd.exec
  have hby := Bd.bytes
  have hlk : meth.locks = false := BodyLoose.notSynchronized Bd
  have hml : c.maxLocals = 2 := hml0
  have hown : s.vm.findClass "java/lang/Integer" = some m.cls := findClass_of_methodNamed Bd.named
  have hnm := (name_of_methodNamed Bd.named Bd.method).1
  have X0 : Stand p l e ({ frames := 0, cells := 0, slots := 0, locals := 0 } : Room) s m #[(.int p1)] below meth c s₁ [] 0 0 := Stand.of_body Bd
  have e0 : s₁.heap = h0 := by rw [← hh, Bd.state]; rfl
  have N0 := Fr.nil n0
  show Go p.tables e below s (Q11 Z p1 u h0 n0) ({ frames := 0, cells := 0, slots := 0, locals := 0 } : Room).cells ({ frames := 0, cells := 0, slots := 0, locals := 0 } : Room).slots (s₁.setTop (entryFrame m #[(.int p1)] 2))
  refine Go.on (fun t k => castTop (ef_11 m p1) k) ?_
  show Go p.tables e below s _ _ _ (s₁.setTop (mkF m 0 #[.val (.int p1), .unset] []))
  subst hu
  show Go p.tables e below s _ _ _ (s₁.setTop (mkF m 0 #[.val (.int (Int32.ofNat u)), .unset] []))
  refine Go.on (fun t k => XS.iloadN X0.here hx rfl (hb hby d11_0) rfl k) ?_
  show Go p.tables e below s _ _ _ (s₁.setTop (mkF m 1 #[.val (.int (Int32.ofNat u)), .unset] [(.int (Int32.ofNat u))]))
  by_cases h31 : u < 2147483648
  · omega
  · have hneg : (Int32.ofNat u).toInt < 0 := by have q := own_wrap u; have := own_rng (Int32.ofNat u); omega
    have hc : ¬ (0 : Int32) < Int32.ofNat u := by rw [Int32.lt_iff_toInt_lt]; show ¬ (0 : Int) < _; omega
    refine Go.on (fun t k => XS.ifNo X0.here hx rfl (hb hby d11_1) rfl ((if0 _ _).trans (flt hc).2.2.1) k) ?_
    show Go p.tables e below s _ _ _ (s₁.setTop (mkF m 4 #[.val (.int (Int32.ofNat u)), .unset] []))
    refine Go.on (fun t k => XS.iloadN X0.here hx rfl (hb hby d11_4) rfl k) ?_
    show Go p.tables e below s _ _ _ (s₁.setTop (mkF m 5 #[.val (.int (Int32.ofNat u)), .unset] [(.int (Int32.ofNat u))]))
    have hc2 : ¬ Int32.ofNat u = (0 : Int32) := fun q => by rw [q] at hneg; exact absurd hneg (by decide)
    refine Go.on (fun t k => XS.ifYes X0.here hx rfl (pc0 := 5) (pc' := 13) rfl (hb hby d11_5) rfl ((if0 _ _).trans (feq hc2).2) (by decide) (by decide) k) ?_
    show Go p.tables e below s _ _ _ (s₁.setTop (mkF m 13 #[.val (.int (Int32.ofNat u)), .unset] []))
    refine Go.on (fun t k => XS.iconst X0.here hx rfl (hb hby d11_13) k) ?_
    show Go p.tables e below s _ _ _ (s₁.setTop (mkF m 14 #[.val (.int (Int32.ofNat u)), .unset] [(.int (0 : Int32))]))
    refine Go.retI X0 hx hlk Bd.returns (hb hby d11_14) (by decide) (by decide) e0 ?_
    exact ⟨(by rw [own_log31 (by omega) hu2]; rfl), N0, rfl⟩
theorem d10_0 : decode jdk_35_method_48_code 0 = .ok (.lload_n 0, 1) := by decide +kernel
theorem d10_1 : decode jdk_35_method_48_code 1 = .ok (.bipush 32, 2) := by decide +kernel
theorem d10_3 : decode jdk_35_method_48_code 3 = .ok (.lushr, 1) := by decide +kernel
theorem d10_4 : decode jdk_35_method_48_code 4 = .ok (.l2i, 1) := by decide +kernel
theorem d10_5 : decode jdk_35_method_48_code 5 = .ok (.istore_n 2, 1) := by decide +kernel
theorem d10_6 : decode jdk_35_method_48_code 6 = .ok (.iload_n 2, 1) := by decide +kernel
theorem d10_7 : decode jdk_35_method_48_code 7 = .ok (.ifCond .ne 14, 3) := by decide +kernel
theorem d10_10 : decode jdk_35_method_48_code 10 = .ok (.bipush 32, 2) := by decide +kernel
theorem d10_12 : decode jdk_35_method_48_code 12 = .ok (.lload_n 0, 1) := by decide +kernel
theorem d10_13 : decode jdk_35_method_48_code 13 = .ok (.l2i, 1) := by decide +kernel
theorem d10_14 : decode jdk_35_method_48_code 14 = .ok (.invokestatic 308, 3) := by decide +kernel
theorem d10_17 : decode jdk_35_method_48_code 17 = .ok (.iadd, 1) := by decide +kernel
theorem d10_18 : decode jdk_35_method_48_code 18 = .ok (.goto 7, 3) := by decide +kernel
theorem d10_21 : decode jdk_35_method_48_code 21 = .ok (.iload_n 2, 1) := by decide +kernel
theorem d10_22 : decode jdk_35_method_48_code 22 = .ok (.invokestatic 308, 3) := by decide +kernel
theorem d10_25 : decode jdk_35_method_48_code 25 = .ok (.ireturn, 1) := by decide +kernel
theorem ef_10 (m : MethodId) (x0 : Int64) : entryFrame m #[(.long x0)] 3 = mkF m 0 #[.val (.long x0), .second, .unset] [] := by first | (simp [entryFrame, mkF, argsToLocals, Value.category]; done) | rfl
def Q10 (Z : State) (q1 : Int64) (u : Nat) (h0 : Heap) (n0 : Nat) (v : Option Value) (h : Heap) (L : List Loc) : Prop := v = some (.int (Int32.ofNat (63 - Nat.log2 u))) ∧ Fr n0 L ∧ h = h0
theorem pn_java_lang_Long : plainName "java/lang/Long" = true := by first | (simp [plainName, overriddenIn]; done) | decide +kernel
set_option maxRecDepth 65536 in
set_option maxHeartbeats 40000000 in
theorem rm10 (l : Launch) (Z : State) (a0 : Array Value) (hw : ∀ d ∈ tables_1, d.before a0 Z = true) (ws : List Jvm.Cond) (q1 : Int64) (u : Nat) (h0 : Heap) (n0 : Nat) (Z0 : n0 ≤ h0.size) (hu : q1 = Int64.ofNat u) (hu1 : 2147483648 ≤ u) (hu2 : u < 4294967296) :
    MetFree l (⟨"java/lang/Long", "numberOfLeadingZeros", "(J)I"⟩ : MethodName) (head1 (Jvm.Cond.code (⟨"java/lang/Long", "numberOfLeadingZeros", "(J)I"⟩ : MethodName) jdk_35_method_48_code 3 (some .int) :: ws) ({ frames := 1, cells := 0, slots := 0, locals := 14 } : Room)) (fun a U => a = #[(.long q1)] ∧ Z.Warmed39 U.vm ∧ U.heap = h0) (fun _ _ _ _ _ => True) (fun _ U o U' => ∃ v L, o = .returned v ∧ Q10 Z q1 u h0 n0 v U'.heap L ∧ FrameEnd U o U' L ({ frames := 1, cells := 0, slots := 0, locals := 14 } : Room).cells ({ frames := 1, cells := 0, slots := 0, locals := 14 } : Room).slots) := by
  refine MetFree.of_bodySF (plainFor_of_name pn_java_lang_Long) hisR ?_
  intro p e s m args below meth c s₁ Bd hml0 hP hK
  obtain ⟨rfl, hZ, hh⟩ := hP
  have hx := Bd.exec
  have hby := Bd.bytes
  have hlk : meth.locks = false := BodyLoose.notSynchronized Bd
  have hml : c.maxLocals = 3 := hml0
  have hown : s.vm.findClass "java/lang/Long" = some m.cls := findClass_of_methodNamed Bd.named
  have hnm := (name_of_methodNamed Bd.named Bd.method).1
  have X0 : Stand p l e ({ frames := 1, cells := 0, slots := 0, locals := 14 } : Room) s m #[(.long q1)] below meth c s₁ [] 0 0 := Stand.of_body Bd
  have e0 : s₁.heap = h0 := by rw [← hh, Bd.state]; rfl
  have N0 := Fr.nil n0
  show Go p.tables e below s (Q10 Z q1 u h0 n0) ({ frames := 1, cells := 0, slots := 0, locals := 14 } : Room).cells ({ frames := 1, cells := 0, slots := 0, locals := 14 } : Room).slots (s₁.setTop (entryFrame m #[(.long q1)] 3))
  refine Go.on (fun t k => castTop (ef_10 m q1) k) ?_
  show Go p.tables e below s _ _ _ (s₁.setTop (mkF m 0 #[.val (.long q1), .second, .unset] []))
  subst hu
  show Go p.tables e below s _ _ _ (s₁.setTop (mkF m 0 #[.val (.long (Int64.ofNat u)), .second, .unset] []))
  refine Go.on (fun t k => XS.lloadN X0.here hx rfl (hb hby d10_0) rfl k) ?_
  show Go p.tables e below s _ _ _ (s₁.setTop (mkF m 1 #[.val (.long (Int64.ofNat u)), .second, .unset] [(.long (Int64.ofNat u))]))
  refine Go.on (fun t k => XS.bipush X0.here hx rfl (hb hby d10_1) k) ?_
  show Go p.tables e below s _ _ _ (s₁.setTop (mkF m 3 #[.val (.long (Int64.ofNat u)), .second, .unset] [(.int (32 : Int32)), (.long (Int64.ofNat u))]))
  refine Go.on (fun t k => XS.lushr X0.here hx rfl (hb hby d10_3) rfl k) ?_
  show Go p.tables e below s _ _ _ (s₁.setTop (mkF m 4 #[.val (.long (Int64.ofNat u)), .second, .unset] [(.long (((Int64.ofNat u).toUInt64 >>> ((32 : Int32) &&& 0x3f).toInt64.toUInt64).toInt64))]))
  refine Go.on (fun t k => XS.l2i X0.here hx rfl (hb hby d10_4) rfl k) ?_
  show Go p.tables e below s _ _ _ (s₁.setTop (mkF m 5 #[.val (.long (Int64.ofNat u)), .second, .unset] [(.int ((((Int64.ofNat u).toUInt64 >>> ((32 : Int32) &&& 0x3f).toInt64.toUInt64).toInt64).toInt32))]))
  rw [own_hi hu2]
  show Go p.tables e below s _ _ _ (s₁.setTop (mkF m 5 #[.val (.long (Int64.ofNat u)), .second, .unset] [(.int (0 : Int32))]))
  refine Go.on (fun t k => XS.istoreN X0.here hx rfl (hb hby d10_5) rfl (l' := #[.val (.long (Int64.ofNat u)), .second, .val (.int (0 : Int32))]) rfl k) ?_
  show Go p.tables e below s _ _ _ (s₁.setTop (mkF m 6 #[.val (.long (Int64.ofNat u)), .second, .val (.int (0 : Int32))] []))
  refine Go.on (fun t k => XS.iloadN X0.here hx rfl (hb hby d10_6) rfl k) ?_
  show Go p.tables e below s _ _ _ (s₁.setTop (mkF m 7 #[.val (.long (Int64.ofNat u)), .second, .val (.int (0 : Int32))] [(.int (0 : Int32))]))
  refine Go.on (fun t k => XS.ifNo X0.here hx rfl (hb hby d10_7) rfl ((if0 _ _).trans (teq (rfl : (0 : Int32) = (0 : Int32))).2) k) ?_
  show Go p.tables e below s _ _ _ (s₁.setTop (mkF m 10 #[.val (.long (Int64.ofNat u)), .second, .val (.int (0 : Int32))] []))
  refine Go.on (fun t k => XS.bipush X0.here hx rfl (hb hby d10_10) k) ?_
  show Go p.tables e below s _ _ _ (s₁.setTop (mkF m 12 #[.val (.long (Int64.ofNat u)), .second, .val (.int (0 : Int32))] [(.int (32 : Int32))]))
  refine Go.on (fun t k => XS.lloadN X0.here hx rfl (hb hby d10_12) rfl k) ?_
  show Go p.tables e below s _ _ _ (s₁.setTop (mkF m 13 #[.val (.long (Int64.ofNat u)), .second, .val (.int (0 : Int32))] [(.long (Int64.ofNat u)), (.int (32 : Int32))]))
  refine Go.on (fun t k => XS.l2i X0.here hx rfl (hb hby d10_13) rfl k) ?_
  show Go p.tables e below s _ _ _ (s₁.setTop (mkF m 14 #[.val (.long (Int64.ofNat u)), .second, .val (.int (0 : Int32))] [(.int ((Int64.ofNat u).toInt32)), (.int (32 : Int32))]))
  rw [own_l2iEq]
  show Go p.tables e below s _ _ _ (s₁.setTop (mkF m 14 #[.val (.long (Int64.ofNat u)), .second, .val (.int (0 : Int32))] [(.int (Int32.ofNat u)), (.int (32 : Int32))]))
  obtain ⟨_, _, ⟨T1, L1, k1, n1⟩, -, X1, ⟨Lc1, hQ1, l1, y1, z1⟩, st1⟩ := Jvm.LawKit.callS X0 hx (y := (⟨"java/lang/Integer", "numberOfLeadingZeros", "(I)I"⟩ : MethodName)) hown (mvT hZ (hw _ (List.mem_of_getElem? (i := 53) rfl))) (mvT hZ (hw _ (List.mem_of_getElem? (i := 54) rfl))) (mvT hZ (hw _ (List.mem_of_getElem? (i := 55) rfl))) (mvT hZ (hw _ (List.mem_of_getElem? (i := 56) rfl))) (by decide) (backOf (W := 1) (rm11 l Z a0 hw [] (Int32.ofNat u) u h0 n0 Z0 rfl hu1 hu2) hZ (hw _ (List.mem_of_getElem? (i := 56) rfl)) (hw _ (List.mem_of_getElem? (i := 55) rfl)) (by decide) (by decide)) (g := (mkF m 14 #[.val (.long (Int64.ofNat u)), .second, .val (.int (0 : Int32))] [(.int (Int32.ofNat u)), (.int (32 : Int32))])) rfl (by rw [hml]; rfl) (argsL := [(.int (Int32.ofNat u))]) (rest := [(.int (32 : Int32))]) (lenOf pd__40_I_41_I rfl) rfl (by show 2 * 0 + _ ≤ _; exact Nat.le_of_eq rfl) (hb hby d10_14) (fun _ _ => ⟨rfl, e0, (by decide : 0 + 0 ≤ _), (by decide : 0 + 0 ≤ _)⟩)
  dsimp only [Pt.U, Pt.locs, Pt.cells, Pt.slots] at X1 l1 y1 z1 st1 hQ1
  subst l1 y1 z1
  obtain ⟨rfl, Nq1, e1⟩ := hQ1
  have Np2 := Fr.app N0 Nq1
  refine Go.on st1 ?_
  show Go p.tables e below s _ _ _ (T1.setTop (mkF m 17 #[.val (.long (Int64.ofNat u)), .second, .val (.int (0 : Int32))] [(.int (Int32.ofNat (31 - Nat.log2 u))), (.int (32 : Int32))]))
  refine Go.on (fun t k => XS.iadd X1.here hx rfl (hb hby d10_17) rfl k) ?_
  show Go p.tables e below s _ _ _ (T1.setTop (mkF m 18 #[.val (.long (Int64.ofNat u)), .second, .val (.int (0 : Int32))] [(.int ((32 : Int32) + (Int32.ofNat (31 - Nat.log2 u))))]))
  have hL : Nat.log2 u ≤ 31 := by have := (Nat.log2_lt (show u ≠ 0 by omega) (k := 32)).mpr (by omega); omega
  rw [show (32 : Int32) + Int32.ofNat (31 - Nat.log2 u) = Int32.ofNat (63 - Nat.log2 u) from (own_add 32 (31 - Nat.log2 u)).trans (by congr 1; omega)]
  show Go p.tables e below s _ _ _ (T1.setTop (mkF m 18 #[.val (.long (Int64.ofNat u)), .second, .val (.int (0 : Int32))] [(.int (Int32.ofNat (63 - Nat.log2 u)))]))
  refine Go.on (fun t k => XS.goto X1.here hx rfl (pc0 := 18) (pc' := 25) rfl (hb hby d10_18) (by decide) (by decide) k) ?_
  show Go p.tables e below s _ _ _ (T1.setTop (mkF m 25 #[.val (.long (Int64.ofNat u)), .second, .val (.int (0 : Int32))] [(.int (Int32.ofNat (63 - Nat.log2 u)))]))
  refine Go.retI X1 hx hlk Bd.returns (hb hby d10_25) (by decide) (by decide) e1 ?_
  exact ⟨rfl, Np2, rfl⟩
theorem d9_0 : decode prog_15_method_5_code 0 = .ok (.lload_n 0, 1) := by decide +kernel
theorem d9_1 : decode prog_15_method_5_code 1 = .ok (.ldc2_w 40, 3) := by decide +kernel
theorem d9_4 : decode prog_15_method_5_code 4 = .ok (.lcmp, 1) := by decide +kernel
theorem d9_5 : decode prog_15_method_5_code 5 = .ok (.ifCond .ge 6, 3) := by decide +kernel
theorem d9_8 : decode prog_15_method_5_code 8 = .ok (.lload_n 0, 1) := by decide +kernel
theorem d9_9 : decode prog_15_method_5_code 9 = .ok (.l2i, 1) := by decide +kernel
theorem d9_10 : decode prog_15_method_5_code 10 = .ok (.ireturn, 1) := by decide +kernel
theorem d9_11 : decode prog_15_method_5_code 11 = .ok (.bipush 64, 2) := by decide +kernel
theorem d9_13 : decode prog_15_method_5_code 13 = .ok (.lload_n 0, 1) := by decide +kernel
theorem d9_14 : decode prog_15_method_5_code 14 = .ok (.invokestatic 44, 3) := by decide +kernel
theorem d9_17 : decode prog_15_method_5_code 17 = .ok (.isub, 1) := by decide +kernel
theorem d9_18 : decode prog_15_method_5_code 18 = .ok (.bipush 12, 2) := by decide +kernel
theorem d9_20 : decode prog_15_method_5_code 20 = .ok (.isub, 1) := by decide +kernel
theorem d9_21 : decode prog_15_method_5_code 21 = .ok (.istore_n 2, 1) := by decide +kernel
theorem d9_22 : decode prog_15_method_5_code 22 = .ok (.sipush 4096, 3) := by decide +kernel
theorem d9_25 : decode prog_15_method_5_code 25 = .ok (.iload_n 2, 1) := by decide +kernel
theorem d9_26 : decode prog_15_method_5_code 26 = .ok (.iconst 1, 1) := by decide +kernel
theorem d9_27 : decode prog_15_method_5_code 27 = .ok (.isub, 1) := by decide +kernel
theorem d9_28 : decode prog_15_method_5_code 28 = .ok (.sipush 2048, 3) := by decide +kernel
theorem d9_31 : decode prog_15_method_5_code 31 = .ok (.imul, 1) := by decide +kernel
theorem d9_32 : decode prog_15_method_5_code 32 = .ok (.iadd, 1) := by decide +kernel
theorem d9_33 : decode prog_15_method_5_code 33 = .ok (.lload_n 0, 1) := by decide +kernel
theorem d9_34 : decode prog_15_method_5_code 34 = .ok (.iload_n 2, 1) := by decide +kernel
theorem d9_35 : decode prog_15_method_5_code 35 = .ok (.lushr, 1) := by decide +kernel
theorem d9_36 : decode prog_15_method_5_code 36 = .ok (.l2i, 1) := by decide +kernel
theorem d9_37 : decode prog_15_method_5_code 37 = .ok (.iadd, 1) := by decide +kernel
theorem d9_38 : decode prog_15_method_5_code 38 = .ok (.sipush 2048, 3) := by decide +kernel
theorem d9_41 : decode prog_15_method_5_code 41 = .ok (.isub, 1) := by decide +kernel
theorem d9_42 : decode prog_15_method_5_code 42 = .ok (.ireturn, 1) := by decide +kernel
theorem ef_9 (m : MethodId) (x0 : Int64) : entryFrame m #[(.long x0)] 3 = mkF m 0 #[.val (.long x0), .second, .unset] [] := by first | (simp [entryFrame, mkF, argsToLocals, Value.category]; done) | rfl
def Q9 (Z : State) (q1 : Int64) (u : Nat) (h0 : Heap) (n0 : Nat) (v : Option Value) (h : Heap) (L : List Loc) : Prop := v = some (.int (Int32.ofNat (own_bk u))) ∧ Fr n0 L ∧ h = h0
theorem pn_com_example_loomport_loomport_loadgen_Latencies : plainName "com/example/loomport/loomport/loadgen/Latencies" = true := by first | (simp [plainName, overriddenIn]; done) | decide +kernel
set_option maxRecDepth 65536 in
set_option maxHeartbeats 40000000 in
theorem rm9 (l : Launch) (Z : State) (a0 : Array Value) (hw : ∀ d ∈ tables_1, d.before a0 Z = true) (ws : List Jvm.Cond) (q1 : Int64) (u : Nat) (h0 : Heap) (n0 : Nat) (Z0 : n0 ≤ h0.size) (hu : q1 = Int64.ofNat u) (hu2 : u < 4294967296) (hu3 : 2147483648 ≤ u) :
    MetFree l (⟨"com/example/loomport/loomport/loadgen/Latencies", "bucket", "(J)I"⟩ : MethodName) (head1 (Jvm.Cond.code (⟨"com/example/loomport/loomport/loadgen/Latencies", "bucket", "(J)I"⟩ : MethodName) prog_15_method_5_code 3 (some .int) :: ws) ({ frames := 2, cells := 0, slots := 0, locals := 29 } : Room)) (fun a U => a = #[(.long q1)] ∧ Z.Warmed39 U.vm ∧ U.heap = h0) (fun _ _ _ _ _ => True) (fun _ U o U' => ∃ v L, o = .returned v ∧ Q9 Z q1 u h0 n0 v U'.heap L ∧ FrameEnd U o U' L ({ frames := 2, cells := 0, slots := 0, locals := 29 } : Room).cells ({ frames := 2, cells := 0, slots := 0, locals := 29 } : Room).slots) := by
  refine MetFree.of_bodySF (plainFor_of_name pn_com_example_loomport_loomport_loadgen_Latencies) hisR ?_
  intro p e s m args below meth c s₁ Bd hml0 hP hK
  obtain ⟨rfl, hZ, hh⟩ := hP
  have hx := Bd.exec
  have hby := Bd.bytes
  have hlk : meth.locks = false := BodyLoose.notSynchronized Bd
  have hml : c.maxLocals = 3 := hml0
  have hown : s.vm.findClass "com/example/loomport/loomport/loadgen/Latencies" = some m.cls := findClass_of_methodNamed Bd.named
  have hnm := (name_of_methodNamed Bd.named Bd.method).1
  have X0 : Stand p l e ({ frames := 2, cells := 0, slots := 0, locals := 29 } : Room) s m #[(.long q1)] below meth c s₁ [] 0 0 := Stand.of_body Bd
  have e0 : s₁.heap = h0 := by rw [← hh, Bd.state]; rfl
  have N0 := Fr.nil n0
  show Go p.tables e below s (Q9 Z q1 u h0 n0) ({ frames := 2, cells := 0, slots := 0, locals := 29 } : Room).cells ({ frames := 2, cells := 0, slots := 0, locals := 29 } : Room).slots (s₁.setTop (entryFrame m #[(.long q1)] 3))
  refine Go.on (fun t k => castTop (ef_9 m q1) k) ?_
  show Go p.tables e below s _ _ _ (s₁.setTop (mkF m 0 #[.val (.long q1), .second, .unset] []))
  subst hu
  show Go p.tables e below s _ _ _ (s₁.setTop (mkF m 0 #[.val (.long (Int64.ofNat u)), .second, .unset] []))
  refine Go.on (fun t k => XS.lloadN X0.here hx rfl (hb hby d9_0) rfl k) ?_
  show Go p.tables e below s _ _ _ (s₁.setTop (mkF m 1 #[.val (.long (Int64.ofNat u)), .second, .unset] [(.long (Int64.ofNat u))]))
  refine Go.on (fun t k => X0.ldc2Long hx hown (mvT hZ (hw _ (List.mem_of_getElem? (i := 48) rfl))) (g := (mkF m 1 #[.val (.long (Int64.ofNat u)), .second, .unset] [(.long (Int64.ofNat u))])) rfl (hb hby d9_1) t k) ?_
  show Go p.tables e below s _ _ _ (s₁.setTop (mkF m 4 #[.val (.long (Int64.ofNat u)), .second, .unset] [(.long (4096 : Int64)), (.long (Int64.ofNat u))]))
  refine Go.on (fun t k => XS.lcmp X0.here hx rfl (hb hby d9_4) rfl k) ?_
  show Go p.tables e below s _ _ _ (s₁.setTop (mkF m 5 #[.val (.long (Int64.ofNat u)), .second, .unset] [(.int (lcmpW (Int64.ofNat u) (4096 : Int64)))]))
  have hcmp : lcmpW (Int64.ofNat u) (4096 : Int64) < (0 : Int32) ↔ u < 4096 := by rw [lw_lt, Int64.lt_iff_toInt_lt, own_toIntL hu2]; show (u : Int) < 4096 ↔ _; omega
  by_cases hc : u < 4096
  · refine Go.on (fun t k => XS.ifNo X0.here hx rfl (hb hby d9_5) rfl ((if0 _ _).trans (tlt (hcmp.mpr hc)).2.1) k) ?_
    show Go p.tables e below s _ _ _ (s₁.setTop (mkF m 8 #[.val (.long (Int64.ofNat u)), .second, .unset] []))
    refine Go.on (fun t k => XS.lloadN X0.here hx rfl (hb hby d9_8) rfl k) ?_
    show Go p.tables e below s _ _ _ (s₁.setTop (mkF m 9 #[.val (.long (Int64.ofNat u)), .second, .unset] [(.long (Int64.ofNat u))]))
    refine Go.on (fun t k => XS.l2i X0.here hx rfl (hb hby d9_9) rfl k) ?_
    show Go p.tables e below s _ _ _ (s₁.setTop (mkF m 10 #[.val (.long (Int64.ofNat u)), .second, .unset] [(.int ((Int64.ofNat u).toInt32))]))
    rw [own_bkLow hc]
    show Go p.tables e below s _ _ _ (s₁.setTop (mkF m 10 #[.val (.long (Int64.ofNat u)), .second, .unset] [(.int (Int32.ofNat (own_bk u)))]))
    refine Go.retI X0 hx hlk Bd.returns (hb hby d9_10) (by decide) (by decide) e0 ?_
    exact ⟨rfl, N0, rfl⟩
  · refine Go.on (fun t k => XS.ifYes X0.here hx rfl (pc0 := 5) (pc' := 11) rfl (hb hby d9_5) rfl ((if0 _ _).trans (flt (fun q => hc (hcmp.mp q))).2.1) (by decide) (by decide) k) ?_
    show Go p.tables e below s _ _ _ (s₁.setTop (mkF m 11 #[.val (.long (Int64.ofNat u)), .second, .unset] []))
    obtain ⟨l1, l2⟩ := own_L (show 4096 ≤ u by omega) hu2
    refine Go.on (fun t k => XS.bipush X0.here hx rfl (hb hby d9_11) k) ?_
    show Go p.tables e below s _ _ _ (s₁.setTop (mkF m 13 #[.val (.long (Int64.ofNat u)), .second, .unset] [(.int (64 : Int32))]))
    refine Go.on (fun t k => XS.lloadN X0.here hx rfl (hb hby d9_13) rfl k) ?_
    show Go p.tables e below s _ _ _ (s₁.setTop (mkF m 14 #[.val (.long (Int64.ofNat u)), .second, .unset] [(.long (Int64.ofNat u)), (.int (64 : Int32))]))
    obtain ⟨_, _, ⟨T1, L1, k1, n1⟩, -, X1, ⟨Lc1, hQ1, l1, y1, z1⟩, st1⟩ := Jvm.LawKit.callS X0 hx (y := (⟨"java/lang/Long", "numberOfLeadingZeros", "(J)I"⟩ : MethodName)) hown (mvT hZ (hw _ (List.mem_of_getElem? (i := 49) rfl))) (mvT hZ (hw _ (List.mem_of_getElem? (i := 50) rfl))) (mvT hZ (hw _ (List.mem_of_getElem? (i := 51) rfl))) (mvT hZ (hw _ (List.mem_of_getElem? (i := 52) rfl))) (by decide) (backOf (W := 1) (rm10 l Z a0 hw [] (Int64.ofNat u) u h0 n0 Z0 rfl (by omega) hu2) hZ (hw _ (List.mem_of_getElem? (i := 52) rfl)) (hw _ (List.mem_of_getElem? (i := 51) rfl)) (by decide) (by decide)) (g := (mkF m 14 #[.val (.long (Int64.ofNat u)), .second, .unset] [(.long (Int64.ofNat u)), (.int (64 : Int32))])) rfl (by rw [hml]; rfl) (argsL := [(.long (Int64.ofNat u))]) (rest := [(.int (64 : Int32))]) (lenOf pd__40_J_41_I rfl) rfl (by show 2 * 0 + _ ≤ _; exact Nat.le_of_eq rfl) (hb hby d9_14) (fun _ _ => ⟨rfl, e0, (by decide : 0 + 0 ≤ _), (by decide : 0 + 0 ≤ _)⟩)
    dsimp only [Pt.U, Pt.locs, Pt.cells, Pt.slots] at X1 l1 y1 z1 st1 hQ1
    subst l1 y1 z1
    obtain ⟨rfl, Nq1, e1⟩ := hQ1
    have Np2 := Fr.app N0 Nq1
    refine Go.on st1 ?_
    show Go p.tables e below s _ _ _ (T1.setTop (mkF m 17 #[.val (.long (Int64.ofNat u)), .second, .unset] [(.int (Int32.ofNat (63 - Nat.log2 u))), (.int (64 : Int32))]))
    refine Go.on (fun t k => XS.isub X1.here hx rfl (hb hby d9_17) rfl k) ?_
    show Go p.tables e below s _ _ _ (T1.setTop (mkF m 18 #[.val (.long (Int64.ofNat u)), .second, .unset] [(.int ((64 : Int32) - (Int32.ofNat (63 - Nat.log2 u))))]))
    refine Go.on (fun t k => XS.bipush X1.here hx rfl (hb hby d9_18) k) ?_
    show Go p.tables e below s _ _ _ (T1.setTop (mkF m 20 #[.val (.long (Int64.ofNat u)), .second, .unset] [(.int (12 : Int32)), (.int ((64 : Int32) - (Int32.ofNat (63 - Nat.log2 u))))]))
    refine Go.on (fun t k => XS.isub X1.here hx rfl (hb hby d9_20) rfl k) ?_
    show Go p.tables e below s _ _ _ (T1.setTop (mkF m 21 #[.val (.long (Int64.ofNat u)), .second, .unset] [(.int (((64 : Int32) - (Int32.ofNat (63 - Nat.log2 u))) - (12 : Int32)))]))
    rw [own_sh l1 l2]
    show Go p.tables e below s _ _ _ (T1.setTop (mkF m 21 #[.val (.long (Int64.ofNat u)), .second, .unset] [(.int (Int32.ofNat (Nat.log2 u - 11)))]))
    refine Go.on (fun t k => XS.istoreN X1.here hx rfl (hb hby d9_21) rfl (l' := #[.val (.long (Int64.ofNat u)), .second, .val (.int (Int32.ofNat (Nat.log2 u - 11)))]) rfl k) ?_
    show Go p.tables e below s _ _ _ (T1.setTop (mkF m 22 #[.val (.long (Int64.ofNat u)), .second, .val (.int (Int32.ofNat (Nat.log2 u - 11)))] []))
    refine Go.on (fun t k => XS.sipush X1.here hx rfl (hb hby d9_22) k) ?_
    show Go p.tables e below s _ _ _ (T1.setTop (mkF m 25 #[.val (.long (Int64.ofNat u)), .second, .val (.int (Int32.ofNat (Nat.log2 u - 11)))] [(.int (4096 : Int32))]))
    refine Go.on (fun t k => XS.iloadN X1.here hx rfl (hb hby d9_25) rfl k) ?_
    show Go p.tables e below s _ _ _ (T1.setTop (mkF m 26 #[.val (.long (Int64.ofNat u)), .second, .val (.int (Int32.ofNat (Nat.log2 u - 11)))] [(.int (Int32.ofNat (Nat.log2 u - 11))), (.int (4096 : Int32))]))
    refine Go.on (fun t k => XS.iconst X1.here hx rfl (hb hby d9_26) k) ?_
    show Go p.tables e below s _ _ _ (T1.setTop (mkF m 27 #[.val (.long (Int64.ofNat u)), .second, .val (.int (Int32.ofNat (Nat.log2 u - 11)))] [(.int (1 : Int32)), (.int (Int32.ofNat (Nat.log2 u - 11))), (.int (4096 : Int32))]))
    refine Go.on (fun t k => XS.isub X1.here hx rfl (hb hby d9_27) rfl k) ?_
    show Go p.tables e below s _ _ _ (T1.setTop (mkF m 28 #[.val (.long (Int64.ofNat u)), .second, .val (.int (Int32.ofNat (Nat.log2 u - 11)))] [(.int ((Int32.ofNat (Nat.log2 u - 11)) - (1 : Int32))), (.int (4096 : Int32))]))
    refine Go.on (fun t k => XS.sipush X1.here hx rfl (hb hby d9_28) k) ?_
    show Go p.tables e below s _ _ _ (T1.setTop (mkF m 31 #[.val (.long (Int64.ofNat u)), .second, .val (.int (Int32.ofNat (Nat.log2 u - 11)))] [(.int (2048 : Int32)), (.int ((Int32.ofNat (Nat.log2 u - 11)) - (1 : Int32))), (.int (4096 : Int32))]))
    refine Go.on (fun t k => XS.imul X1.here hx rfl (hb hby d9_31) rfl k) ?_
    show Go p.tables e below s _ _ _ (T1.setTop (mkF m 32 #[.val (.long (Int64.ofNat u)), .second, .val (.int (Int32.ofNat (Nat.log2 u - 11)))] [(.int (((Int32.ofNat (Nat.log2 u - 11)) - (1 : Int32)) * (2048 : Int32))), (.int (4096 : Int32))]))
    refine Go.on (fun t k => XS.iadd X1.here hx rfl (hb hby d9_32) rfl k) ?_
    show Go p.tables e below s _ _ _ (T1.setTop (mkF m 33 #[.val (.long (Int64.ofNat u)), .second, .val (.int (Int32.ofNat (Nat.log2 u - 11)))] [(.int ((4096 : Int32) + (((Int32.ofNat (Nat.log2 u - 11)) - (1 : Int32)) * (2048 : Int32))))]))
    refine Go.on (fun t k => XS.lloadN X1.here hx rfl (hb hby d9_33) rfl k) ?_
    show Go p.tables e below s _ _ _ (T1.setTop (mkF m 34 #[.val (.long (Int64.ofNat u)), .second, .val (.int (Int32.ofNat (Nat.log2 u - 11)))] [(.long (Int64.ofNat u)), (.int ((4096 : Int32) + (((Int32.ofNat (Nat.log2 u - 11)) - (1 : Int32)) * (2048 : Int32))))]))
    refine Go.on (fun t k => XS.iloadN X1.here hx rfl (hb hby d9_34) rfl k) ?_
    show Go p.tables e below s _ _ _ (T1.setTop (mkF m 35 #[.val (.long (Int64.ofNat u)), .second, .val (.int (Int32.ofNat (Nat.log2 u - 11)))] [(.int (Int32.ofNat (Nat.log2 u - 11))), (.long (Int64.ofNat u)), (.int ((4096 : Int32) + (((Int32.ofNat (Nat.log2 u - 11)) - (1 : Int32)) * (2048 : Int32))))]))
    refine Go.on (fun t k => XS.lushr X1.here hx rfl (hb hby d9_35) rfl k) ?_
    show Go p.tables e below s _ _ _ (T1.setTop (mkF m 36 #[.val (.long (Int64.ofNat u)), .second, .val (.int (Int32.ofNat (Nat.log2 u - 11)))] [(.long (((Int64.ofNat u).toUInt64 >>> ((Int32.ofNat (Nat.log2 u - 11)) &&& 0x3f).toInt64.toUInt64).toInt64)), (.int ((4096 : Int32) + (((Int32.ofNat (Nat.log2 u - 11)) - (1 : Int32)) * (2048 : Int32))))]))
    refine Go.on (fun t k => XS.l2i X1.here hx rfl (hb hby d9_36) rfl k) ?_
    show Go p.tables e below s _ _ _ (T1.setTop (mkF m 37 #[.val (.long (Int64.ofNat u)), .second, .val (.int (Int32.ofNat (Nat.log2 u - 11)))] [(.int ((((Int64.ofNat u).toUInt64 >>> ((Int32.ofNat (Nat.log2 u - 11)) &&& 0x3f).toInt64.toUInt64).toInt64).toInt32)), (.int ((4096 : Int32) + (((Int32.ofNat (Nat.log2 u - 11)) - (1 : Int32)) * (2048 : Int32))))]))
    refine Go.on (fun t k => XS.iadd X1.here hx rfl (hb hby d9_37) rfl k) ?_
    show Go p.tables e below s _ _ _ (T1.setTop (mkF m 38 #[.val (.long (Int64.ofNat u)), .second, .val (.int (Int32.ofNat (Nat.log2 u - 11)))] [(.int (((4096 : Int32) + (((Int32.ofNat (Nat.log2 u - 11)) - (1 : Int32)) * (2048 : Int32))) + ((((Int64.ofNat u).toUInt64 >>> ((Int32.ofNat (Nat.log2 u - 11)) &&& 0x3f).toInt64.toUInt64).toInt64).toInt32)))]))
    refine Go.on (fun t k => XS.sipush X1.here hx rfl (hb hby d9_38) k) ?_
    show Go p.tables e below s _ _ _ (T1.setTop (mkF m 41 #[.val (.long (Int64.ofNat u)), .second, .val (.int (Int32.ofNat (Nat.log2 u - 11)))] [(.int (2048 : Int32)), (.int (((4096 : Int32) + (((Int32.ofNat (Nat.log2 u - 11)) - (1 : Int32)) * (2048 : Int32))) + ((((Int64.ofNat u).toUInt64 >>> ((Int32.ofNat (Nat.log2 u - 11)) &&& 0x3f).toInt64.toUInt64).toInt64).toInt32)))]))
    refine Go.on (fun t k => XS.isub X1.here hx rfl (hb hby d9_41) rfl k) ?_
    show Go p.tables e below s _ _ _ (T1.setTop (mkF m 42 #[.val (.long (Int64.ofNat u)), .second, .val (.int (Int32.ofNat (Nat.log2 u - 11)))] [(.int ((((4096 : Int32) + (((Int32.ofNat (Nat.log2 u - 11)) - (1 : Int32)) * (2048 : Int32))) + ((((Int64.ofNat u).toUInt64 >>> ((Int32.ofNat (Nat.log2 u - 11)) &&& 0x3f).toInt64.toUInt64).toInt64).toInt32)) - (2048 : Int32)))]))
    rw [own_bkEnd (by omega) hu2]
    show Go p.tables e below s _ _ _ (T1.setTop (mkF m 42 #[.val (.long (Int64.ofNat u)), .second, .val (.int (Int32.ofNat (Nat.log2 u - 11)))] [(.int (Int32.ofNat (own_bk u)))]))
    refine Go.retI X1 hx hlk Bd.returns (hb hby d9_42) (by decide) (by decide) e1 ?_
    exact ⟨rfl, Np2, rfl⟩
theorem d8_0 : decode prog_15_method_1_code 0 = .ok (.aload_n 0, 1) := by decide +kernel
theorem d8_1 : decode prog_15_method_1_code 1 = .ok (.invokespecial 3, 3) := by decide +kernel
theorem d8_4 : decode prog_15_method_1_code 4 = .ok (.aload_n 0, 1) := by decide +kernel
theorem d8_5 : decode prog_15_method_1_code 5 = .ok (.ldc2_w 9, 3) := by decide +kernel
theorem d8_8 : decode prog_15_method_1_code 8 = .ok (.invokestatic 11, 3) := by decide +kernel
theorem d8_11 : decode prog_15_method_1_code 11 = .ok (.iconst 1, 1) := by decide +kernel
theorem d8_12 : decode prog_15_method_1_code 12 = .ok (.iadd, 1) := by decide +kernel
theorem d8_13 : decode prog_15_method_1_code 13 = .ok (.newarray .long, 2) := by decide +kernel
theorem d8_15 : decode prog_15_method_1_code 15 = .ok (.putfield 15, 3) := by decide +kernel
theorem d8_18 : decode prog_15_method_1_code 18 = .ok (.return_, 1) := by decide +kernel
theorem ef_8 (m : MethodId) (x0 : Addr) : entryFrame m #[(.ref x0)] 1 = mkF m 0 #[.val (.ref x0)] [] := by first | (simp [entryFrame, mkF, argsToLocals, Value.category]; done) | rfl
def Q8 (Z : State) (a1 : Addr) (u1 : Value) (h0 : Heap) (n0 : Nat) (v : Option Value) (h : Heap) (L : List Loc) : Prop := ∃ (cc : Addr), v = none ∧ Fr n0 L ∧ Keep h0 h [a1] ∧ n0 ≤ cc ∧ h0.size ≤ cc ∧ Fld Z h a1 "com/example/loomport/loomport/loadgen/Latencies" "counts" "[J" (.ref cc) ∧ Cnt Z h cc (fun _ => 0)
set_option maxRecDepth 65536 in
set_option maxHeartbeats 40000000 in
theorem rm8 (l : Launch) (Z : State) (a0 : Array Value) (hw : ∀ d ∈ tables_1, d.before a0 Z = true) (ws : List Jvm.Cond) (a1 : Addr) (u1 : Value) (h0 : Heap) (n0 : Nat) (Z0 : n0 ≤ h0.size) (E_a1 : Exa Z h0 a1 "com/example/loomport/loomport/loadgen/Latencies") (ge_a1 : n0 ≤ a1) (F_counts_a1 : Fld Z h0 a1 "com/example/loomport/loomport/loadgen/Latencies" "counts" "[J" u1) :
    MetFree l (⟨"com/example/loomport/loomport/loadgen/Latencies", "<init>", "()V"⟩ : MethodName) (head1 (Jvm.Cond.code (⟨"com/example/loomport/loomport/loadgen/Latencies", "<init>", "()V"⟩ : MethodName) prog_15_method_1_code 1 none :: ws) ({ frames := 3, cells := 1, slots := 45056, locals := 44 } : Room)) (fun a U => a = #[(.ref a1)] ∧ Z.Warmed39 U.vm ∧ U.heap = h0) (fun _ _ _ _ _ => True) (fun _ U o U' => ∃ v L, o = .returned v ∧ Q8 Z a1 u1 h0 n0 v U'.heap L ∧ FrameEnd U o U' L ({ frames := 3, cells := 1, slots := 45056, locals := 44 } : Room).cells ({ frames := 3, cells := 1, slots := 45056, locals := 44 } : Room).slots) := by
  refine MetFree.of_bodySF (plainFor_of_name pn_com_example_loomport_loomport_loadgen_Latencies) hisR ?_
  intro p e s m args below meth c s₁ Bd hml0 hP hK
  obtain ⟨rfl, hZ, hh⟩ := hP
  have hx := Bd.exec
  have hby := Bd.bytes
  have hlk : meth.locks = false := BodyLoose.notSynchronized Bd
  have hml : c.maxLocals = 1 := hml0
  have hown : s.vm.findClass "com/example/loomport/loomport/loadgen/Latencies" = some m.cls := findClass_of_methodNamed Bd.named
  have hnm := (name_of_methodNamed Bd.named Bd.method).1
  have X0 : Stand p l e ({ frames := 3, cells := 1, slots := 45056, locals := 44 } : Room) s m #[(.ref a1)] below meth c s₁ [] 0 0 := Stand.of_body Bd
  have e0 : s₁.heap = h0 := by rw [← hh, Bd.state]; rfl
  have N0 := Fr.nil n0
  show Go p.tables e below s (Q8 Z a1 u1 h0 n0) ({ frames := 3, cells := 1, slots := 45056, locals := 44 } : Room).cells ({ frames := 3, cells := 1, slots := 45056, locals := 44 } : Room).slots (s₁.setTop (entryFrame m #[(.ref a1)] 1))
  refine Go.on (fun t k => castTop (ef_8 m a1) k) ?_
  show Go p.tables e below s _ _ _ (s₁.setTop (mkF m 0 #[.val (.ref a1)] []))
  refine Go.on (fun t k => XS.aloadN X0.here hx rfl (hb hby d8_0) rfl rfl k) ?_
  show Go p.tables e below s _ _ _ (s₁.setTop (mkF m 1 #[.val (.ref a1)] [(.ref a1)]))
  obtain ⟨T1, X1, e1, st1⟩ := initO X0 hx hZ hown (hw _ (List.mem_of_getElem? (i := 43) rfl)) (hw _ (List.mem_of_getElem? (i := 12) rfl)) (hw _ (List.mem_of_getElem? (i := 13) rfl)) e0 (g := (mkF m 1 #[.val (.ref a1)] [(.ref a1)])) rfl (by rw [hml]; rfl) rfl (hb hby d8_1) (by decide) (W := 0) (by show 2 * 0 + _ ≤ _; exact Nat.le_of_eq rfl) (by decide)
  refine Go.on st1 ?_
  show Go p.tables e below s _ _ _ (T1.setTop (mkF m 4 #[.val (.ref a1)] []))
  refine Go.on (fun t k => XS.aloadN X1.here hx rfl (hb hby d8_4) rfl rfl k) ?_
  show Go p.tables e below s _ _ _ (T1.setTop (mkF m 5 #[.val (.ref a1)] [(.ref a1)]))
  refine Go.on (fun t k => X1.ldc2Long hx hown (mvT hZ (hw _ (List.mem_of_getElem? (i := 44) rfl))) (g := (mkF m 5 #[.val (.ref a1)] [(.ref a1)])) rfl (hb hby d8_5) t k) ?_
  show Go p.tables e below s _ _ _ (T1.setTop (mkF m 8 #[.val (.ref a1)] [(.long (4294967295 : Int64)), (.ref a1)]))
  obtain ⟨_, _, ⟨T2, L2, k2, n2⟩, -, X2, ⟨Lc2, hQ2, l2, y2, z2⟩, st2⟩ := Jvm.LawKit.callS X1 hx (y := (⟨"com/example/loomport/loomport/loadgen/Latencies", "bucket", "(J)I"⟩ : MethodName)) hown (mvT hZ (hw _ (List.mem_of_getElem? (i := 45) rfl))) (mvT hZ (hw _ (List.mem_of_getElem? (i := 46) rfl))) (mvT hZ (hw _ (List.mem_of_getElem? (i := 39) rfl))) (mvT hZ (hw _ (List.mem_of_getElem? (i := 47) rfl))) (by decide) (backOf (W := 1) (rm9 l Z a0 hw [] (4294967295 : Int64) 4294967295 h0 n0 Z0 rfl (by decide) (by decide)) hZ (hw _ (List.mem_of_getElem? (i := 47) rfl)) (hw _ (List.mem_of_getElem? (i := 39) rfl)) (by decide) (by decide)) (g := (mkF m 8 #[.val (.ref a1)] [(.long (4294967295 : Int64)), (.ref a1)])) rfl (by rw [hml]; rfl) (argsL := [(.long (4294967295 : Int64))]) (rest := [(.ref a1)]) (lenOf pd__40_J_41_I rfl) rfl (by show 2 * 0 + _ ≤ _; exact Nat.le_of_eq rfl) (hb hby d8_8) (fun _ _ => ⟨rfl, e1, (by decide : 0 + 0 ≤ _), (by decide : 0 + 0 ≤ _)⟩)
  dsimp only [Pt.U, Pt.locs, Pt.cells, Pt.slots] at X2 l2 y2 z2 st2 hQ2
  subst l2 y2 z2
  obtain ⟨rfl, Nq2, e2⟩ := hQ2
  have Np3 := Fr.app N0 Nq2
  refine Go.on st2 ?_
  show Go p.tables e below s _ _ _ (T2.setTop (mkF m 11 #[.val (.ref a1)] [(.int (Int32.ofNat (own_bk 4294967295))), (.ref a1)]))
  rw [show own_bk 4294967295 = 45055 by rw [own_bk, if_neg (by decide), own_log31 (by decide) (by decide)]]
  show Go p.tables e below s _ _ _ (T2.setTop (mkF m 11 #[.val (.ref a1)] [(.int (Int32.ofNat 45055)), (.ref a1)]))
  refine Go.on (fun t k => XS.iconst X2.here hx rfl (hb hby d8_11) k) ?_
  show Go p.tables e below s _ _ _ (T2.setTop (mkF m 12 #[.val (.ref a1)] [(.int (1 : Int32)), (.int (Int32.ofNat 45055)), (.ref a1)]))
  refine Go.on (fun t k => XS.iadd X2.here hx rfl (hb hby d8_12) rfl k) ?_
  show Go p.tables e below s _ _ _ (T2.setTop (mkF m 13 #[.val (.ref a1)] [(.int ((Int32.ofNat 45055) + (1 : Int32))), (.ref a1)]))
  rw [show Int32.ofNat 45055 + (1 : Int32) = (45056 : Int32) by decide]
  show Go p.tables e below s _ _ _ (T2.setTop (mkF m 13 #[.val (.ref a1)] [(.int (45056 : Int32)), (.ref a1)]))
  obtain ⟨T4, h4, k4, X4, e4, E4, A4, st4⟩ := newP X2 hx hZ (hw _ (List.mem_of_getElem? (i := 57) rfl)) e2 (g := (mkF m 13 #[.val (.ref a1)] [(.int (45056 : Int32)), (.ref a1)])) rfl (hb hby d8_13) rfl (by decide) (cap := 45056) (by decide) (by decide) (by decide) (by decide)
  obtain ⟨b4, g4⟩ : ∃ z, z = h0.size := ⟨_, rfl⟩
  rw [← g4] at A4 st4
  have ne5 : a1 ≠ b4 := Nat.ne_of_lt (Nat.lt_of_lt_of_eq E_a1.lt g4.symm)
  have ge6 : n0 ≤ b4 := Nat.le_trans Z0 (Nat.le_of_eq g4.symm)
  have sz7 : h0.size ≤ b4 := Nat.le_trans (Keep.refl h0 [a1]).1 (Nat.le_of_eq g4.symm)
  have E_a1_8 := E_a1.ext E4
  have F_counts_a1_9 := F_counts_a1.ext E4
  have Zp10 := Nat.le_trans Z0 E4.1
  have Kp11 := (Keep.refl h0 [a1]).ext E4
  have Cb4_13 : Cnt Z h4 b4 (fun _ => 0) := Cnt.new A4
  refine Go.on st4 ?_
  show Go p.tables e below s _ _ _ (T4.setTop (mkF m 15 #[.val (.ref a1)] [(.ref b4), (.ref a1)]))
  obtain ⟨T14, h14, X14, e14, W14, st14⟩ := putF X4 hx hZ hown (host := "") (Or.inl (hw _ (List.mem_of_getElem? (i := 58) rfl))) Via.refl e4 F_counts_a1_9 E_a1_8 (Or.inr ⟨(hw _ (List.mem_of_getElem? (i := 59) rfl)), rfl, hnm⟩) (hw _ (List.mem_of_getElem? (i := 38) rfl)) (ty := (.array .long)) (by decide) rfl rfl (g := (mkF m 15 #[.val (.ref a1)] [(.ref b4), (.ref a1)])) rfl rfl (hb hby d8_15)
  have E_a1_15 := E_a1_8.wr W14
  have F_counts_a1_16 := F_counts_a1_9.same W14
  have Cb4_17 := Cb4_13.other W14 (Ne.symm ne5)
  have Zp18 := Nat.le_trans Zp10 (Keep.of_wr W14).1
  have Kp19 := Kp11.wr W14 (Or.inl (List.mem_of_getElem? (i := 0) rfl))
  have Np20 := Fr.snoc X14 Np3 ge_a1
  refine Go.on st14 ?_
  show Go p.tables e below s _ _ _ (T14.setTop (mkF m 18 #[.val (.ref a1)] []))
  refine Go.retV X14 hx hlk Bd.returns (hb hby d8_18) (by decide) (by decide) e14 ?_
  exact ⟨b4, rfl, Np20, Kp19, ge6, sz7, F_counts_a1_16, Cb4_17⟩
theorem own_and3 (x : Int32) : x &&& (3 : Int32) = 0 ∨ x &&& (3 : Int32) = 1 ∨ x &&& (3 : Int32) = 2 ∨ x &&& (3 : Int32) = 3 := by
  have h := c_mask x 3 2 (by decide) (by decide)
  have h3 : (x &&& (3 : Int32)).toInt = 0 ∨ (x &&& (3 : Int32)).toInt = 1 ∨ (x &&& (3 : Int32)).toInt = 2 ∨ (x &&& (3 : Int32)).toInt = 3 := by omega
  rcases h3 with h3 | h3 | h3 | h3
  · exact Or.inl (Int32.toInt_inj.mp h3)
  · exact Or.inr (Or.inl (Int32.toInt_inj.mp h3))
  · exact Or.inr (Or.inr (Or.inl (Int32.toInt_inj.mp h3)))
  · exact Or.inr (Or.inr (Or.inr (Int32.toInt_inj.mp h3)))

theorem d7_0 : decode prog_20_method_1_code 0 = .ok (.aload_n 0, 1) := by decide +kernel
theorem d7_1 : decode prog_20_method_1_code 1 = .ok (.invokespecial 1, 3) := by decide +kernel
theorem d7_4 : decode prog_20_method_1_code 4 = .ok (.aload_n 0, 1) := by decide +kernel
theorem d7_5 : decode prog_20_method_1_code 5 = .ok (.new 7, 3) := by decide +kernel
theorem d7_8 : decode prog_20_method_1_code 8 = .ok (.dup, 1) := by decide +kernel
theorem d7_9 : decode prog_20_method_1_code 9 = .ok (.invokespecial 9, 3) := by decide +kernel
theorem d7_12 : decode prog_20_method_1_code 12 = .ok (.putfield 10, 3) := by decide +kernel
theorem d7_15 : decode prog_20_method_1_code 15 = .ok (.return_, 1) := by decide +kernel
theorem ef_7 (m : MethodId) (x0 : Addr) : entryFrame m #[(.ref x0)] 1 = mkF m 0 #[.val (.ref x0)] [] := by first | (simp [entryFrame, mkF, argsToLocals, Value.category]; done) | rfl
def Q7 (Z : State) (a1 : Addr) (h0 : Heap) (n0 : Nat) (v : Option Value) (h : Heap) (L : List Loc) : Prop := v = none ∧ Fr n0 L ∧ Keep h0 h [a1] ∧ Fld Z h a1 "com/example/loomport/loomport/loadgen/Tally" "errors" "J" (.long (0 : Int64)) ∧ Fld Z h a1 "com/example/loomport/loomport/loadgen/Tally" "firstError" "Ljava/lang/String;" .null
theorem pn_com_example_loomport_loomport_loadgen_Tally : plainName "com/example/loomport/loomport/loadgen/Tally" = true := by first | (simp [plainName, overriddenIn]; done) | decide +kernel
set_option maxRecDepth 65536 in
set_option maxHeartbeats 40000000 in
theorem rm7 (l : Launch) (Z : State) (a0 : Array Value) (hw : ∀ d ∈ tables_1, d.before a0 Z = true) (ws : List Jvm.Cond) (a1 : Addr) (h0 : Heap) (n0 : Nat) (Z0 : n0 ≤ h0.size) (E_a1 : Exa Z h0 a1 "com/example/loomport/loomport/loadgen/Tally") (ge_a1 : n0 ≤ a1) (F_latencies_a1 : Fld Z h0 a1 "com/example/loomport/loomport/loadgen/Tally" "latencies" "Lcom/example/loomport/loomport/loadgen/Latencies;" .null) (F_errors_a1 : Fld Z h0 a1 "com/example/loomport/loomport/loadgen/Tally" "errors" "J" (.long (0 : Int64))) (F_firstError_a1 : Fld Z h0 a1 "com/example/loomport/loomport/loadgen/Tally" "firstError" "Ljava/lang/String;" .null) :
    MetFree l (⟨"com/example/loomport/loomport/loadgen/Tally", "<init>", "()V"⟩ : MethodName) (head1 (Jvm.Cond.code (⟨"com/example/loomport/loomport/loadgen/Tally", "<init>", "()V"⟩ : MethodName) prog_20_method_1_code 1 none :: ws) ({ frames := 4, cells := 2, slots := 45058, locals := 58 } : Room)) (fun a U => a = #[(.ref a1)] ∧ Z.Warmed39 U.vm ∧ U.heap = h0) (fun _ _ _ _ _ => True) (fun _ U o U' => ∃ v L, o = .returned v ∧ Q7 Z a1 h0 n0 v U'.heap L ∧ FrameEnd U o U' L ({ frames := 4, cells := 2, slots := 45058, locals := 58 } : Room).cells ({ frames := 4, cells := 2, slots := 45058, locals := 58 } : Room).slots) := by
  refine MetFree.of_bodySF (plainFor_of_name pn_com_example_loomport_loomport_loadgen_Tally) hisR ?_
  intro p e s m args below meth c s₁ Bd hml0 hP hK
  obtain ⟨rfl, hZ, hh⟩ := hP
  have hx := Bd.exec
  have hby := Bd.bytes
  have hlk : meth.locks = false := BodyLoose.notSynchronized Bd
  have hml : c.maxLocals = 1 := hml0
  have hown : s.vm.findClass "com/example/loomport/loomport/loadgen/Tally" = some m.cls := findClass_of_methodNamed Bd.named
  have hnm := (name_of_methodNamed Bd.named Bd.method).1
  have X0 : Stand p l e ({ frames := 4, cells := 2, slots := 45058, locals := 58 } : Room) s m #[(.ref a1)] below meth c s₁ [] 0 0 := Stand.of_body Bd
  have e0 : s₁.heap = h0 := by rw [← hh, Bd.state]; rfl
  have N0 := Fr.nil n0
  show Go p.tables e below s (Q7 Z a1 h0 n0) ({ frames := 4, cells := 2, slots := 45058, locals := 58 } : Room).cells ({ frames := 4, cells := 2, slots := 45058, locals := 58 } : Room).slots (s₁.setTop (entryFrame m #[(.ref a1)] 1))
  refine Go.on (fun t k => castTop (ef_7 m a1) k) ?_
  show Go p.tables e below s _ _ _ (s₁.setTop (mkF m 0 #[.val (.ref a1)] []))
  refine Go.on (fun t k => XS.aloadN X0.here hx rfl (hb hby d7_0) rfl rfl k) ?_
  show Go p.tables e below s _ _ _ (s₁.setTop (mkF m 1 #[.val (.ref a1)] [(.ref a1)]))
  obtain ⟨T1, X1, e1, st1⟩ := initO X0 hx hZ hown (hw _ (List.mem_of_getElem? (i := 36) rfl)) (hw _ (List.mem_of_getElem? (i := 12) rfl)) (hw _ (List.mem_of_getElem? (i := 13) rfl)) e0 (g := (mkF m 1 #[.val (.ref a1)] [(.ref a1)])) rfl (by rw [hml]; rfl) rfl (hb hby d7_1) (by decide) (W := 0) (by show 2 * 0 + _ ≤ _; exact Nat.le_of_eq rfl) (by decide)
  refine Go.on st1 ?_
  show Go p.tables e below s _ _ _ (T1.setTop (mkF m 4 #[.val (.ref a1)] []))
  refine Go.on (fun t k => XS.aloadN X1.here hx rfl (hb hby d7_4) rfl rfl k) ?_
  show Go p.tables e below s _ _ _ (T1.setTop (mkF m 5 #[.val (.ref a1)] [(.ref a1)]))
  obtain ⟨T2, h2, X2, e2, E2, A2, D2, -, st2⟩ := newO X1 hx hZ hown (hw _ (List.mem_of_getElem? (i := 37) rfl)) (hw _ (List.mem_of_getElem? (i := 38) rfl)) (hw _ (List.mem_of_getElem? (i := 39) rfl)) e1 (g := (mkF m 5 #[.val (.ref a1)] [(.ref a1)])) rfl (hb hby d7_5) (by decide) (by decide)
  obtain ⟨b2, g2⟩ : ∃ z, z = h0.size := ⟨_, rfl⟩
  rw [← g2] at A2 D2 st2
  have ne3 : a1 ≠ b2 := Nat.ne_of_lt (Nat.lt_of_lt_of_eq E_a1.lt g2.symm)
  have ge4 : n0 ≤ b2 := Nat.le_trans Z0 (Nat.le_of_eq g2.symm)
  have sz5 : h0.size ≤ b2 := Nat.le_trans (Keep.refl h0 [a1]).1 (Nat.le_of_eq g2.symm)
  have E_a1_6 := E_a1.ext E2
  have F_latencies_a1_7 := F_latencies_a1.ext E2
  have F_errors_a1_8 := F_errors_a1.ext E2
  have F_firstError_a1_9 := F_firstError_a1.ext E2
  have Zp10 := Nat.le_trans Z0 E2.1
  have Kp11 := (Keep.refl h0 [a1]).ext E2
  have Fcounts_12 : Fld Z h2 b2 "com/example/loomport/loomport/loadgen/Latencies" "counts" "[J" .null := D2 (Or.inr (hw _ (List.mem_of_getElem? (i := 59) rfl))) (ty := (.array .long)) (by decide)
  refine Go.on st2 ?_
  show Go p.tables e below s _ _ _ (T2.setTop (mkF m 8 #[.val (.ref a1)] [(.ref b2), (.ref a1)]))
  refine Go.on (fun t k => XS.dup X2.here hx rfl (hb hby d7_8) rfl rfl k) ?_
  show Go p.tables e below s _ _ _ (T2.setTop (mkF m 9 #[.val (.ref a1)] [(.ref b2), (.ref b2), (.ref a1)]))
  obtain ⟨_, _, ⟨T13, L13, k13, n13⟩, -, X13, ⟨Lc13, hQ13, l13, y13, z13⟩, st13⟩ := X2.specialBack hx (y := (⟨"com/example/loomport/loomport/loadgen/Latencies", "<init>", "()V"⟩ : MethodName)) rfl hown (mvT hZ (hw _ (List.mem_of_getElem? (i := 40) rfl))) (mvT hZ (hw _ (List.mem_of_getElem? (i := 41) rfl))) (mvT hZ (hw _ (List.mem_of_getElem? (i := 42) rfl))) (by decide) (backOf (W := 2) (rm8 l Z a0 hw [] b2 .null h2 n0 Zp10 A2 ge4 Fcounts_12) hZ (hw _ (List.mem_of_getElem? (i := 42) rfl)) (hw _ (List.mem_of_getElem? (i := 39) rfl)) (by decide) (by decide)) (g := (mkF m 9 #[.val (.ref a1)] [(.ref b2), (.ref b2), (.ref a1)])) rfl (by rw [hml]; rfl) (Steps.refl _) (a := b2) (argsL := []) (rest := [(.ref b2), (.ref a1)]) (lenOf pd__40__41_V rfl) rfl (by show 2 * 0 + _ ≤ _; exact Nat.le_of_eq rfl) (hb hby d7_9) (fun _ _ => ⟨rfl, e2, (by decide : (0 + 1) + 1 ≤ _), (by decide : (0 + 2) + 45056 ≤ _)⟩)
  dsimp only [Pt.U, Pt.locs, Pt.cells, Pt.slots] at X13 l13 y13 z13 st13 hQ13
  subst l13 y13 z13
  obtain ⟨cc13, rfl, Nq13, Kq13, P13_0, P13_1, P13_2, P13_3⟩ := hQ13
  have E_a1_14 := E_a1_6.keep Kq13
  have F_latencies_a1_15 := F_latencies_a1_7.keep Kq13 (ninS ne3 nin0)
  have F_errors_a1_16 := F_errors_a1_8.keep Kq13 (ninS ne3 nin0)
  have F_firstError_a1_17 := F_firstError_a1_9.keep Kq13 (ninS ne3 nin0)
  have A2_18 := A2.keep Kq13
  have Zp19 := Nat.le_trans Zp10 Kq13.1
  have Kp20 := Kp11.trans Kq13 (allS (Or.inr sz5) all0)
  have ne21 : a1 ≠ cc13 := Nat.ne_of_lt (Nat.lt_of_lt_of_le F_firstError_a1_9.lt P13_1)
  have ne22 : b2 ≠ cc13 := Nat.ne_of_lt (Nat.lt_of_lt_of_le Fcounts_12.lt P13_1)
  have sz23 := Nat.le_trans Kp11.1 P13_1
  have Np24 := Fr.app N0 Nq13
  refine Go.via st13 ?_
  show Go p.tables e below s _ _ _ (T13.setTop (mkF m 12 #[.val (.ref a1)] [(.ref b2), (.ref a1)]))
  obtain ⟨T25, h25, X25, e25, W25, st25⟩ := putF X13 hx hZ hown (host := "") (Or.inl (hw _ (List.mem_of_getElem? (i := 60) rfl))) Via.refl rfl F_latencies_a1_15 E_a1_14 (Or.inr ⟨(hw _ (List.mem_of_getElem? (i := 61) rfl)), rfl, hnm⟩) (hw _ (List.mem_of_getElem? (i := 31) rfl)) (ty := (.object "com/example/loomport/loomport/loadgen/Latencies")) (by decide) rfl rfl (g := (mkF m 12 #[.val (.ref a1)] [(.ref b2), (.ref a1)])) rfl rfl (hb hby d7_12)
  have E_a1_26 := E_a1_14.wr W25
  have F_latencies_a1_27 := F_latencies_a1_15.same W25
  have F_errors_a1_28 := F_errors_a1_16.other W25 (Or.inr (slot_ne (Or.inl (hw _ (List.mem_of_getElem? (i := 68) rfl))) (Or.inr (hw _ (List.mem_of_getElem? (i := 61) rfl))) (by decide) (t := .long) (t' := (.object "com/example/loomport/loomport/loadgen/Latencies")) (by decide) (by decide)))
  have F_firstError_a1_29 := F_firstError_a1_17.other W25 (Or.inr (slot_ne (Or.inl (hw _ (List.mem_of_getElem? (i := 75) rfl))) (Or.inr (hw _ (List.mem_of_getElem? (i := 61) rfl))) (by decide) (t := (.object "java/lang/String")) (t' := (.object "com/example/loomport/loomport/loadgen/Latencies")) (by decide) (by decide)))
  have A2_30 := A2_18.wr W25
  have P13_31 := P13_2.other W25 (Or.inl (Ne.symm ne3))
  have P13_32 := P13_3.other W25 (Ne.symm ne21)
  have Zp33 := Nat.le_trans Zp19 (Keep.of_wr W25).1
  have Kp34 := Kp20.wr W25 (Or.inl (List.mem_of_getElem? (i := 0) rfl))
  have Np35 := Fr.snoc X25 Np24 ge_a1
  refine Go.on st25 ?_
  show Go p.tables e below s _ _ _ (T25.setTop (mkF m 15 #[.val (.ref a1)] []))
  refine Go.retV X25 hx hlk Bd.returns (hb hby d7_15) (by decide) (by decide) e25 ?_
  exact ⟨rfl, Np35, Kp34, F_errors_a1_28, F_firstError_a1_29⟩
theorem d14_0 : decode prog_20_method_4_code 0 = .ok (.aload_n 0, 1) := by decide +kernel
theorem d14_1 : decode prog_20_method_4_code 1 = .ok (.dup, 1) := by decide +kernel
theorem d14_2 : decode prog_20_method_4_code 2 = .ok (.getfield 35, 3) := by decide +kernel
theorem d14_5 : decode prog_20_method_4_code 5 = .ok (.lconst 1, 1) := by decide +kernel
theorem d14_6 : decode prog_20_method_4_code 6 = .ok (.ladd, 1) := by decide +kernel
theorem d14_7 : decode prog_20_method_4_code 7 = .ok (.putfield 35, 3) := by decide +kernel
theorem d14_10 : decode prog_20_method_4_code 10 = .ok (.aload_n 0, 1) := by decide +kernel
theorem d14_11 : decode prog_20_method_4_code 11 = .ok (.getfield 38, 3) := by decide +kernel
theorem d14_14 : decode prog_20_method_4_code 14 = .ok (.ifnonnull 8, 3) := by decide +kernel
theorem d14_17 : decode prog_20_method_4_code 17 = .ok (.aload_n 0, 1) := by decide +kernel
theorem d14_18 : decode prog_20_method_4_code 18 = .ok (.aload_n 1, 1) := by decide +kernel
theorem d14_19 : decode prog_20_method_4_code 19 = .ok (.putfield 38, 3) := by decide +kernel
theorem d14_22 : decode prog_20_method_4_code 22 = .ok (.return_, 1) := by decide +kernel
theorem ef_14n (m : MethodId) (x0 : Addr) (x1 : Addr) : entryFrame m #[(.ref x0), (.ref x1)] 2 = mkF m 0 #[.val (.ref x0), .val (.ref x1)] [] := by first | (simp [entryFrame, mkF, argsToLocals, Value.category]; done) | rfl
def Q14n (Z : State) (a1 : Addr) (a2 : Addr) (n : Int64) (h0 : Heap) (n0 : Nat) (v : Option Value) (h : Heap) (L : List Loc) : Prop := v = none ∧ Fr n0 L ∧ Keep h0 h [a1] ∧ Fld Z h a1 "com/example/loomport/loomport/loadgen/Tally" "errors" "J" (.long (n + (1 : Int64))) ∧ Fld Z h a1 "com/example/loomport/loomport/loadgen/Tally" "firstError" "Ljava/lang/String;" (.ref a2)
set_option maxRecDepth 65536 in
set_option maxHeartbeats 40000000 in
theorem rm14n (l : Launch) (Z : State) (a0 : Array Value) (hw : ∀ d ∈ tables_1, d.before a0 Z = true) (ws : List Jvm.Cond) (a1 : Addr) (a2 : Addr) (n : Int64) (h0 : Heap) (n0 : Nat) (Z0 : n0 ≤ h0.size) (E_a1 : Exa Z h0 a1 "com/example/loomport/loomport/loadgen/Tally") (ge_a1 : n0 ≤ a1) (F_errors_a1 : Fld Z h0 a1 "com/example/loomport/loomport/loadgen/Tally" "errors" "J" (.long n)) (F_firstError_a1 : Fld Z h0 a1 "com/example/loomport/loomport/loadgen/Tally" "firstError" "Ljava/lang/String;" .null) :
    MetFree l (⟨"com/example/loomport/loomport/loadgen/Tally", "error", "(Ljava/lang/String;)V"⟩ : MethodName) (head1 (Jvm.Cond.code (⟨"com/example/loomport/loomport/loadgen/Tally", "error", "(Ljava/lang/String;)V"⟩ : MethodName) prog_20_method_4_code 2 none :: ws) ({ frames := 0, cells := 0, slots := 0, locals := 0 } : Room)) (fun a U => a = #[(.ref a1), (.ref a2)] ∧ Z.Warmed39 U.vm ∧ U.heap = h0) (fun _ _ _ _ _ => True) (fun _ U o U' => ∃ v L, o = .returned v ∧ Q14n Z a1 a2 n h0 n0 v U'.heap L ∧ FrameEnd U o U' L ({ frames := 0, cells := 0, slots := 0, locals := 0 } : Room).cells ({ frames := 0, cells := 0, slots := 0, locals := 0 } : Room).slots) := by
  refine MetFree.of_bodySF (plainFor_of_name pn_com_example_loomport_loomport_loadgen_Tally) hisR ?_
  intro p e s m args below meth c s₁ Bd hml0 hP hK
  obtain ⟨rfl, hZ, hh⟩ := hP
  have hx := Bd.exec
  have hby := Bd.bytes
  have hlk : meth.locks = false := BodyLoose.notSynchronized Bd
  have hml : c.maxLocals = 2 := hml0
  have hown : s.vm.findClass "com/example/loomport/loomport/loadgen/Tally" = some m.cls := findClass_of_methodNamed Bd.named
  have hnm := (name_of_methodNamed Bd.named Bd.method).1
  have X0 : Stand p l e ({ frames := 0, cells := 0, slots := 0, locals := 0 } : Room) s m #[(.ref a1), (.ref a2)] below meth c s₁ [] 0 0 := Stand.of_body Bd
  have e0 : s₁.heap = h0 := by rw [← hh, Bd.state]; rfl
  have N0 := Fr.nil n0
  show Go p.tables e below s (Q14n Z a1 a2 n h0 n0) ({ frames := 0, cells := 0, slots := 0, locals := 0 } : Room).cells ({ frames := 0, cells := 0, slots := 0, locals := 0 } : Room).slots (s₁.setTop (entryFrame m #[(.ref a1), (.ref a2)] 2))
  refine Go.on (fun t k => castTop (ef_14n m a1 a2) k) ?_
  show Go p.tables e below s _ _ _ (s₁.setTop (mkF m 0 #[.val (.ref a1), .val (.ref a2)] []))
  refine Go.on (fun t k => XS.aloadN X0.here hx rfl (hb hby d14_0) rfl rfl k) ?_
  show Go p.tables e below s _ _ _ (s₁.setTop (mkF m 1 #[.val (.ref a1), .val (.ref a2)] [(.ref a1)]))
  refine Go.on (fun t k => XS.dup X0.here hx rfl (hb hby d14_1) rfl rfl k) ?_
  show Go p.tables e below s _ _ _ (s₁.setTop (mkF m 2 #[.val (.ref a1), .val (.ref a2)] [(.ref a1), (.ref a1)]))
  obtain ⟨T1, X1, e1, st1⟩ := getF X0 hx hZ hown (host := "") (Or.inl (hw _ (List.mem_of_getElem? (i := 67) rfl))) Via.refl e0 F_errors_a1 (g := (mkF m 2 #[.val (.ref a1), .val (.ref a2)] [(.ref a1), (.ref a1)])) rfl rfl (hb hby d14_2)
  refine Go.on st1 ?_
  show Go p.tables e below s _ _ _ (T1.setTop (mkF m 5 #[.val (.ref a1), .val (.ref a2)] [(.long n), (.ref a1)]))
  refine Go.on (fun t k => XS.lconst X1.here hx rfl (hb hby d14_5) k) ?_
  show Go p.tables e below s _ _ _ (T1.setTop (mkF m 6 #[.val (.ref a1), .val (.ref a2)] [(.long (1 : Int64)), (.long n), (.ref a1)]))
  refine Go.on (fun t k => XS.ladd X1.here hx rfl (hb hby d14_6) rfl k) ?_
  show Go p.tables e below s _ _ _ (T1.setTop (mkF m 7 #[.val (.ref a1), .val (.ref a2)] [(.long (n + (1 : Int64))), (.ref a1)]))
  obtain ⟨T2, h2, X2, e2, W2, st2⟩ := putF X1 hx hZ hown (host := "") (Or.inl (hw _ (List.mem_of_getElem? (i := 67) rfl))) Via.refl e1 F_errors_a1 E_a1 (Or.inl (hw _ (List.mem_of_getElem? (i := 68) rfl))) (hw _ (List.mem_of_getElem? (i := 31) rfl)) (ty := .long) (by decide) rfl rfl (g := (mkF m 7 #[.val (.ref a1), .val (.ref a2)] [(.long (n + (1 : Int64))), (.ref a1)])) rfl rfl (hb hby d14_7)
  have E_a1_3 := E_a1.wr W2
  have F_errors_a1_4 := F_errors_a1.same W2
  have F_firstError_a1_5 := F_firstError_a1.other W2 (Or.inr (slot_ne (Or.inl (hw _ (List.mem_of_getElem? (i := 75) rfl))) (Or.inl (hw _ (List.mem_of_getElem? (i := 68) rfl))) (by decide) (t := (.object "java/lang/String")) (t' := .long) (by decide) (by decide)))
  have Zp6 := Nat.le_trans Z0 (Keep.of_wr W2).1
  have Kp7 := (Keep.refl h0 [a1]).wr W2 (Or.inl (List.mem_of_getElem? (i := 0) rfl))
  have Np8 := Fr.snoc X2 N0 ge_a1
  refine Go.on st2 ?_
  show Go p.tables e below s _ _ _ (T2.setTop (mkF m 10 #[.val (.ref a1), .val (.ref a2)] []))
  refine Go.on (fun t k => XS.aloadN X2.here hx rfl (hb hby d14_10) rfl rfl k) ?_
  show Go p.tables e below s _ _ _ (T2.setTop (mkF m 11 #[.val (.ref a1), .val (.ref a2)] [(.ref a1)]))
  obtain ⟨T9, X9, e9, st9⟩ := getF X2 hx hZ hown (host := "") (Or.inl (hw _ (List.mem_of_getElem? (i := 74) rfl))) Via.refl e2 F_firstError_a1_5 (g := (mkF m 11 #[.val (.ref a1), .val (.ref a2)] [(.ref a1)])) rfl rfl (hb hby d14_11)
  refine Go.on st9 ?_
  show Go p.tables e below s _ _ _ (T9.setTop (mkF m 14 #[.val (.ref a1), .val (.ref a2)] [.null]))
  refine Go.on (fun t k => XS.ifnonnullNo X9.here hx rfl (hb hby d14_14) rfl k) ?_
  show Go p.tables e below s _ _ _ (T9.setTop (mkF m 17 #[.val (.ref a1), .val (.ref a2)] []))
  refine Go.on (fun t k => XS.aloadN X9.here hx rfl (hb hby d14_17) rfl rfl k) ?_
  show Go p.tables e below s _ _ _ (T9.setTop (mkF m 18 #[.val (.ref a1), .val (.ref a2)] [(.ref a1)]))
  refine Go.on (fun t k => XS.aloadN X9.here hx rfl (hb hby d14_18) rfl rfl k) ?_
  show Go p.tables e below s _ _ _ (T9.setTop (mkF m 19 #[.val (.ref a1), .val (.ref a2)] [(.ref a2), (.ref a1)]))
  obtain ⟨T10, h10, X10, e10, W10, st10⟩ := putF X9 hx hZ hown (host := "") (Or.inl (hw _ (List.mem_of_getElem? (i := 74) rfl))) Via.refl e9 F_firstError_a1_5 E_a1_3 (Or.inl (hw _ (List.mem_of_getElem? (i := 75) rfl))) (hw _ (List.mem_of_getElem? (i := 31) rfl)) (ty := (.object "java/lang/String")) (by decide) rfl rfl (g := (mkF m 19 #[.val (.ref a1), .val (.ref a2)] [(.ref a2), (.ref a1)])) rfl rfl (hb hby d14_19)
  have E_a1_11 := E_a1_3.wr W10
  have F_errors_a1_12 := F_errors_a1_4.other W10 (Or.inr (slot_ne (Or.inl (hw _ (List.mem_of_getElem? (i := 68) rfl))) (Or.inl (hw _ (List.mem_of_getElem? (i := 75) rfl))) (by decide) (t := .long) (t' := (.object "java/lang/String")) (by decide) (by decide)))
  have F_firstError_a1_13 := F_firstError_a1_5.same W10
  have Zp14 := Nat.le_trans Zp6 (Keep.of_wr W10).1
  have Kp15 := Kp7.wr W10 (Or.inl (List.mem_of_getElem? (i := 0) rfl))
  have Np16 := Fr.snoc X10 Np8 ge_a1
  refine Go.on st10 ?_
  show Go p.tables e below s _ _ _ (T10.setTop (mkF m 22 #[.val (.ref a1), .val (.ref a2)] []))
  refine Go.retV X10 hx hlk Bd.returns (hb hby d14_22) (by decide) (by decide) e10 ?_
  exact ⟨rfl, Np16, Kp15, F_errors_a1_12, F_firstError_a1_13⟩
theorem ef_14s (m : MethodId) (x0 : Addr) (x1 : Addr) : entryFrame m #[(.ref x0), (.ref x1)] 2 = mkF m 0 #[.val (.ref x0), .val (.ref x1)] [] := by first | (simp [entryFrame, mkF, argsToLocals, Value.category]; done) | rfl
def Q14s (Z : State) (a1 : Addr) (a2 : Addr) (n : Int64) (f : Addr) (h0 : Heap) (n0 : Nat) (v : Option Value) (h : Heap) (L : List Loc) : Prop := v = none ∧ Fr n0 L ∧ Keep h0 h [a1] ∧ Fld Z h a1 "com/example/loomport/loomport/loadgen/Tally" "errors" "J" (.long (n + (1 : Int64))) ∧ Fld Z h a1 "com/example/loomport/loomport/loadgen/Tally" "firstError" "Ljava/lang/String;" (.ref f)
set_option maxRecDepth 65536 in
set_option maxHeartbeats 40000000 in
theorem rm14s (l : Launch) (Z : State) (a0 : Array Value) (hw : ∀ d ∈ tables_1, d.before a0 Z = true) (ws : List Jvm.Cond) (a1 : Addr) (a2 : Addr) (n : Int64) (f : Addr) (h0 : Heap) (n0 : Nat) (Z0 : n0 ≤ h0.size) (E_a1 : Exa Z h0 a1 "com/example/loomport/loomport/loadgen/Tally") (ge_a1 : n0 ≤ a1) (F_errors_a1 : Fld Z h0 a1 "com/example/loomport/loomport/loadgen/Tally" "errors" "J" (.long n)) (F_firstError_a1 : Fld Z h0 a1 "com/example/loomport/loomport/loadgen/Tally" "firstError" "Ljava/lang/String;" (.ref f)) :
    MetFree l (⟨"com/example/loomport/loomport/loadgen/Tally", "error", "(Ljava/lang/String;)V"⟩ : MethodName) (head1 (Jvm.Cond.code (⟨"com/example/loomport/loomport/loadgen/Tally", "error", "(Ljava/lang/String;)V"⟩ : MethodName) prog_20_method_4_code 2 none :: ws) ({ frames := 0, cells := 0, slots := 0, locals := 0 } : Room)) (fun a U => a = #[(.ref a1), (.ref a2)] ∧ Z.Warmed39 U.vm ∧ U.heap = h0) (fun _ _ _ _ _ => True) (fun _ U o U' => ∃ v L, o = .returned v ∧ Q14s Z a1 a2 n f h0 n0 v U'.heap L ∧ FrameEnd U o U' L ({ frames := 0, cells := 0, slots := 0, locals := 0 } : Room).cells ({ frames := 0, cells := 0, slots := 0, locals := 0 } : Room).slots) := by
  refine MetFree.of_bodySF (plainFor_of_name pn_com_example_loomport_loomport_loadgen_Tally) hisR ?_
  intro p e s m args below meth c s₁ Bd hml0 hP hK
  obtain ⟨rfl, hZ, hh⟩ := hP
  have hx := Bd.exec
  have hby := Bd.bytes
  have hlk : meth.locks = false := BodyLoose.notSynchronized Bd
  have hml : c.maxLocals = 2 := hml0
  have hown : s.vm.findClass "com/example/loomport/loomport/loadgen/Tally" = some m.cls := findClass_of_methodNamed Bd.named
  have hnm := (name_of_methodNamed Bd.named Bd.method).1
  have X0 : Stand p l e ({ frames := 0, cells := 0, slots := 0, locals := 0 } : Room) s m #[(.ref a1), (.ref a2)] below meth c s₁ [] 0 0 := Stand.of_body Bd
  have e0 : s₁.heap = h0 := by rw [← hh, Bd.state]; rfl
  have N0 := Fr.nil n0
  show Go p.tables e below s (Q14s Z a1 a2 n f h0 n0) ({ frames := 0, cells := 0, slots := 0, locals := 0 } : Room).cells ({ frames := 0, cells := 0, slots := 0, locals := 0 } : Room).slots (s₁.setTop (entryFrame m #[(.ref a1), (.ref a2)] 2))
  refine Go.on (fun t k => castTop (ef_14s m a1 a2) k) ?_
  show Go p.tables e below s _ _ _ (s₁.setTop (mkF m 0 #[.val (.ref a1), .val (.ref a2)] []))
  refine Go.on (fun t k => XS.aloadN X0.here hx rfl (hb hby d14_0) rfl rfl k) ?_
  show Go p.tables e below s _ _ _ (s₁.setTop (mkF m 1 #[.val (.ref a1), .val (.ref a2)] [(.ref a1)]))
  refine Go.on (fun t k => XS.dup X0.here hx rfl (hb hby d14_1) rfl rfl k) ?_
  show Go p.tables e below s _ _ _ (s₁.setTop (mkF m 2 #[.val (.ref a1), .val (.ref a2)] [(.ref a1), (.ref a1)]))
  obtain ⟨T1, X1, e1, st1⟩ := getF X0 hx hZ hown (host := "") (Or.inl (hw _ (List.mem_of_getElem? (i := 67) rfl))) Via.refl e0 F_errors_a1 (g := (mkF m 2 #[.val (.ref a1), .val (.ref a2)] [(.ref a1), (.ref a1)])) rfl rfl (hb hby d14_2)
  refine Go.on st1 ?_
  show Go p.tables e below s _ _ _ (T1.setTop (mkF m 5 #[.val (.ref a1), .val (.ref a2)] [(.long n), (.ref a1)]))
  refine Go.on (fun t k => XS.lconst X1.here hx rfl (hb hby d14_5) k) ?_
  show Go p.tables e below s _ _ _ (T1.setTop (mkF m 6 #[.val (.ref a1), .val (.ref a2)] [(.long (1 : Int64)), (.long n), (.ref a1)]))
  refine Go.on (fun t k => XS.ladd X1.here hx rfl (hb hby d14_6) rfl k) ?_
  show Go p.tables e below s _ _ _ (T1.setTop (mkF m 7 #[.val (.ref a1), .val (.ref a2)] [(.long (n + (1 : Int64))), (.ref a1)]))
  obtain ⟨T2, h2, X2, e2, W2, st2⟩ := putF X1 hx hZ hown (host := "") (Or.inl (hw _ (List.mem_of_getElem? (i := 67) rfl))) Via.refl e1 F_errors_a1 E_a1 (Or.inl (hw _ (List.mem_of_getElem? (i := 68) rfl))) (hw _ (List.mem_of_getElem? (i := 31) rfl)) (ty := .long) (by decide) rfl rfl (g := (mkF m 7 #[.val (.ref a1), .val (.ref a2)] [(.long (n + (1 : Int64))), (.ref a1)])) rfl rfl (hb hby d14_7)
  have E_a1_3 := E_a1.wr W2
  have F_errors_a1_4 := F_errors_a1.same W2
  have F_firstError_a1_5 := F_firstError_a1.other W2 (Or.inr (slot_ne (Or.inl (hw _ (List.mem_of_getElem? (i := 75) rfl))) (Or.inl (hw _ (List.mem_of_getElem? (i := 68) rfl))) (by decide) (t := (.object "java/lang/String")) (t' := .long) (by decide) (by decide)))
  have Zp6 := Nat.le_trans Z0 (Keep.of_wr W2).1
  have Kp7 := (Keep.refl h0 [a1]).wr W2 (Or.inl (List.mem_of_getElem? (i := 0) rfl))
  have Np8 := Fr.snoc X2 N0 ge_a1
  refine Go.on st2 ?_
  show Go p.tables e below s _ _ _ (T2.setTop (mkF m 10 #[.val (.ref a1), .val (.ref a2)] []))
  refine Go.on (fun t k => XS.aloadN X2.here hx rfl (hb hby d14_10) rfl rfl k) ?_
  show Go p.tables e below s _ _ _ (T2.setTop (mkF m 11 #[.val (.ref a1), .val (.ref a2)] [(.ref a1)]))
  obtain ⟨T9, X9, e9, st9⟩ := getF X2 hx hZ hown (host := "") (Or.inl (hw _ (List.mem_of_getElem? (i := 74) rfl))) Via.refl e2 F_firstError_a1_5 (g := (mkF m 11 #[.val (.ref a1), .val (.ref a2)] [(.ref a1)])) rfl rfl (hb hby d14_11)
  refine Go.on st9 ?_
  show Go p.tables e below s _ _ _ (T9.setTop (mkF m 14 #[.val (.ref a1), .val (.ref a2)] [(.ref f)]))
  refine Go.on (fun t k => XS.ifnonnullYes X9.here hx rfl (pc0 := 14) (pc' := 22) rfl (hb hby d14_14) rfl (by decide) (by decide) k) ?_
  show Go p.tables e below s _ _ _ (T9.setTop (mkF m 22 #[.val (.ref a1), .val (.ref a2)] []))
  refine Go.retV X9 hx hlk Bd.returns (hb hby d14_22) (by decide) (by decide) e9 ?_
  exact ⟨rfl, Np8, Kp7, F_errors_a1_4, F_firstError_a1_5⟩
theorem d12_0 : decode prog_20_method_6_code 0 = .ok (.aload_n 0, 1) := by decide +kernel
theorem d12_1 : decode prog_20_method_6_code 1 = .ok (.getfield 35, 3) := by decide +kernel
theorem d12_4 : decode prog_20_method_6_code 4 = .ok (.lreturn, 1) := by decide +kernel
theorem ef_12 (m : MethodId) (x0 : Addr) : entryFrame m #[(.ref x0)] 1 = mkF m 0 #[.val (.ref x0)] [] := by first | (simp [entryFrame, mkF, argsToLocals, Value.category]; done) | rfl
def Q12 (Z : State) (a1 : Addr) (n : Int64) (h0 : Heap) (n0 : Nat) (v : Option Value) (h : Heap) (L : List Loc) : Prop := v = some (.long n) ∧ Fr n0 L ∧ h = h0
set_option maxRecDepth 65536 in
set_option maxHeartbeats 40000000 in
theorem rm12 (l : Launch) (Z : State) (a0 : Array Value) (hw : ∀ d ∈ tables_1, d.before a0 Z = true) (ws : List Jvm.Cond) (a1 : Addr) (n : Int64) (h0 : Heap) (n0 : Nat) (Z0 : n0 ≤ h0.size) (F_errors_a1 : Fld Z h0 a1 "com/example/loomport/loomport/loadgen/Tally" "errors" "J" (.long n)) :
    MetFree l (⟨"com/example/loomport/loomport/loadgen/Tally", "errors", "()J"⟩ : MethodName) (head1 (Jvm.Cond.code (⟨"com/example/loomport/loomport/loadgen/Tally", "errors", "()J"⟩ : MethodName) prog_20_method_6_code 1 (some .long) :: ws) ({ frames := 0, cells := 0, slots := 0, locals := 0 } : Room)) (fun a U => a = #[(.ref a1)] ∧ Z.Warmed39 U.vm ∧ U.heap = h0) (fun _ _ _ _ _ => True) (fun _ U o U' => ∃ v L, o = .returned v ∧ Q12 Z a1 n h0 n0 v U'.heap L ∧ FrameEnd U o U' L ({ frames := 0, cells := 0, slots := 0, locals := 0 } : Room).cells ({ frames := 0, cells := 0, slots := 0, locals := 0 } : Room).slots) := by
  refine MetFree.of_bodySF (plainFor_of_name pn_com_example_loomport_loomport_loadgen_Tally) hisR ?_
  intro p e s m args below meth c s₁ Bd hml0 hP hK
  obtain ⟨rfl, hZ, hh⟩ := hP
  have hx := Bd.exec
  have hby := Bd.bytes
  have hlk : meth.locks = false := BodyLoose.notSynchronized Bd
  have hml : c.maxLocals = 1 := hml0
  have hown : s.vm.findClass "com/example/loomport/loomport/loadgen/Tally" = some m.cls := findClass_of_methodNamed Bd.named
  have hnm := (name_of_methodNamed Bd.named Bd.method).1
  have X0 : Stand p l e ({ frames := 0, cells := 0, slots := 0, locals := 0 } : Room) s m #[(.ref a1)] below meth c s₁ [] 0 0 := Stand.of_body Bd
  have e0 : s₁.heap = h0 := by rw [← hh, Bd.state]; rfl
  have N0 := Fr.nil n0
  show Go p.tables e below s (Q12 Z a1 n h0 n0) ({ frames := 0, cells := 0, slots := 0, locals := 0 } : Room).cells ({ frames := 0, cells := 0, slots := 0, locals := 0 } : Room).slots (s₁.setTop (entryFrame m #[(.ref a1)] 1))
  refine Go.on (fun t k => castTop (ef_12 m a1) k) ?_
  show Go p.tables e below s _ _ _ (s₁.setTop (mkF m 0 #[.val (.ref a1)] []))
  refine Go.on (fun t k => XS.aloadN X0.here hx rfl (hb hby d12_0) rfl rfl k) ?_
  show Go p.tables e below s _ _ _ (s₁.setTop (mkF m 1 #[.val (.ref a1)] [(.ref a1)]))
  obtain ⟨T1, X1, e1, st1⟩ := getF X0 hx hZ hown (host := "") (Or.inl (hw _ (List.mem_of_getElem? (i := 67) rfl))) Via.refl e0 F_errors_a1 (g := (mkF m 1 #[.val (.ref a1)] [(.ref a1)])) rfl rfl (hb hby d12_1)
  refine Go.on st1 ?_
  show Go p.tables e below s _ _ _ (T1.setTop (mkF m 4 #[.val (.ref a1)] [(.long n)]))
  refine Go.retJ X1 hx hlk Bd.returns (hb hby d12_4) (by decide) (by decide) e1 ?_
  exact ⟨rfl, N0, rfl⟩
theorem d13_0 : decode prog_20_method_7_code 0 = .ok (.aload_n 0, 1) := by decide +kernel
theorem d13_1 : decode prog_20_method_7_code 1 = .ok (.getfield 38, 3) := by decide +kernel
theorem d13_4 : decode prog_20_method_7_code 4 = .ok (.areturn, 1) := by decide +kernel
theorem ef_13n (m : MethodId) (x0 : Addr) : entryFrame m #[(.ref x0)] 1 = mkF m 0 #[.val (.ref x0)] [] := by first | (simp [entryFrame, mkF, argsToLocals, Value.category]; done) | rfl
def Q13n (Z : State) (a1 : Addr) (h0 : Heap) (n0 : Nat) (v : Option Value) (h : Heap) (L : List Loc) : Prop := v = some .null ∧ Fr n0 L ∧ h = h0
set_option maxRecDepth 65536 in
set_option maxHeartbeats 40000000 in
theorem rm13n (l : Launch) (Z : State) (a0 : Array Value) (hw : ∀ d ∈ tables_1, d.before a0 Z = true) (ws : List Jvm.Cond) (a1 : Addr) (h0 : Heap) (n0 : Nat) (Z0 : n0 ≤ h0.size) (F_firstError_a1 : Fld Z h0 a1 "com/example/loomport/loomport/loadgen/Tally" "firstError" "Ljava/lang/String;" .null) :
    MetFree l (⟨"com/example/loomport/loomport/loadgen/Tally", "firstError", "()Ljava/lang/String;"⟩ : MethodName) (head1 (Jvm.Cond.code (⟨"com/example/loomport/loomport/loadgen/Tally", "firstError", "()Ljava/lang/String;"⟩ : MethodName) prog_20_method_7_code 1 (some (.object "java/lang/String")) :: ws) ({ frames := 0, cells := 0, slots := 0, locals := 0 } : Room)) (fun a U => a = #[(.ref a1)] ∧ Z.Warmed39 U.vm ∧ U.heap = h0) (fun _ _ _ _ _ => True) (fun _ U o U' => ∃ v L, o = .returned v ∧ Q13n Z a1 h0 n0 v U'.heap L ∧ FrameEnd U o U' L ({ frames := 0, cells := 0, slots := 0, locals := 0 } : Room).cells ({ frames := 0, cells := 0, slots := 0, locals := 0 } : Room).slots) := by
  refine MetFree.of_bodySF (plainFor_of_name pn_com_example_loomport_loomport_loadgen_Tally) hisR ?_
  intro p e s m args below meth c s₁ Bd hml0 hP hK
  obtain ⟨rfl, hZ, hh⟩ := hP
  have hx := Bd.exec
  have hby := Bd.bytes
  have hlk : meth.locks = false := BodyLoose.notSynchronized Bd
  have hml : c.maxLocals = 1 := hml0
  have hown : s.vm.findClass "com/example/loomport/loomport/loadgen/Tally" = some m.cls := findClass_of_methodNamed Bd.named
  have hnm := (name_of_methodNamed Bd.named Bd.method).1
  have X0 : Stand p l e ({ frames := 0, cells := 0, slots := 0, locals := 0 } : Room) s m #[(.ref a1)] below meth c s₁ [] 0 0 := Stand.of_body Bd
  have e0 : s₁.heap = h0 := by rw [← hh, Bd.state]; rfl
  have N0 := Fr.nil n0
  show Go p.tables e below s (Q13n Z a1 h0 n0) ({ frames := 0, cells := 0, slots := 0, locals := 0 } : Room).cells ({ frames := 0, cells := 0, slots := 0, locals := 0 } : Room).slots (s₁.setTop (entryFrame m #[(.ref a1)] 1))
  refine Go.on (fun t k => castTop (ef_13n m a1) k) ?_
  show Go p.tables e below s _ _ _ (s₁.setTop (mkF m 0 #[.val (.ref a1)] []))
  refine Go.on (fun t k => XS.aloadN X0.here hx rfl (hb hby d13_0) rfl rfl k) ?_
  show Go p.tables e below s _ _ _ (s₁.setTop (mkF m 1 #[.val (.ref a1)] [(.ref a1)]))
  obtain ⟨T1, X1, e1, st1⟩ := getF X0 hx hZ hown (host := "") (Or.inl (hw _ (List.mem_of_getElem? (i := 74) rfl))) Via.refl e0 F_firstError_a1 (g := (mkF m 1 #[.val (.ref a1)] [(.ref a1)])) rfl rfl (hb hby d13_1)
  refine Go.on st1 ?_
  show Go p.tables e below s _ _ _ (T1.setTop (mkF m 4 #[.val (.ref a1)] [.null]))
  refine Go.retA X1 hx hlk (w := .null) rfl Bd.returns rfl (hb hby d13_4) (by decide) (by decide) e1 ?_
  exact ⟨rfl, N0, rfl⟩
theorem ef_13s (m : MethodId) (x0 : Addr) : entryFrame m #[(.ref x0)] 1 = mkF m 0 #[.val (.ref x0)] [] := by first | (simp [entryFrame, mkF, argsToLocals, Value.category]; done) | rfl
def Q13s (Z : State) (a1 : Addr) (f : Addr) (h0 : Heap) (n0 : Nat) (v : Option Value) (h : Heap) (L : List Loc) : Prop := v = some (.ref f) ∧ Fr n0 L ∧ h = h0
set_option maxRecDepth 65536 in
set_option maxHeartbeats 40000000 in
theorem rm13s (l : Launch) (Z : State) (a0 : Array Value) (hw : ∀ d ∈ tables_1, d.before a0 Z = true) (ws : List Jvm.Cond) (a1 : Addr) (f : Addr) (h0 : Heap) (n0 : Nat) (Z0 : n0 ≤ h0.size) (F_firstError_a1 : Fld Z h0 a1 "com/example/loomport/loomport/loadgen/Tally" "firstError" "Ljava/lang/String;" (.ref f)) :
    MetFree l (⟨"com/example/loomport/loomport/loadgen/Tally", "firstError", "()Ljava/lang/String;"⟩ : MethodName) (head1 (Jvm.Cond.code (⟨"com/example/loomport/loomport/loadgen/Tally", "firstError", "()Ljava/lang/String;"⟩ : MethodName) prog_20_method_7_code 1 (some (.object "java/lang/String")) :: ws) ({ frames := 0, cells := 0, slots := 0, locals := 0 } : Room)) (fun a U => a = #[(.ref a1)] ∧ Z.Warmed39 U.vm ∧ U.heap = h0) (fun _ _ _ _ _ => True) (fun _ U o U' => ∃ v L, o = .returned v ∧ Q13s Z a1 f h0 n0 v U'.heap L ∧ FrameEnd U o U' L ({ frames := 0, cells := 0, slots := 0, locals := 0 } : Room).cells ({ frames := 0, cells := 0, slots := 0, locals := 0 } : Room).slots) := by
  refine MetFree.of_bodySF (plainFor_of_name pn_com_example_loomport_loomport_loadgen_Tally) hisR ?_
  intro p e s m args below meth c s₁ Bd hml0 hP hK
  obtain ⟨rfl, hZ, hh⟩ := hP
  have hx := Bd.exec
  have hby := Bd.bytes
  have hlk : meth.locks = false := BodyLoose.notSynchronized Bd
  have hml : c.maxLocals = 1 := hml0
  have hown : s.vm.findClass "com/example/loomport/loomport/loadgen/Tally" = some m.cls := findClass_of_methodNamed Bd.named
  have hnm := (name_of_methodNamed Bd.named Bd.method).1
  have X0 : Stand p l e ({ frames := 0, cells := 0, slots := 0, locals := 0 } : Room) s m #[(.ref a1)] below meth c s₁ [] 0 0 := Stand.of_body Bd
  have e0 : s₁.heap = h0 := by rw [← hh, Bd.state]; rfl
  have N0 := Fr.nil n0
  show Go p.tables e below s (Q13s Z a1 f h0 n0) ({ frames := 0, cells := 0, slots := 0, locals := 0 } : Room).cells ({ frames := 0, cells := 0, slots := 0, locals := 0 } : Room).slots (s₁.setTop (entryFrame m #[(.ref a1)] 1))
  refine Go.on (fun t k => castTop (ef_13s m a1) k) ?_
  show Go p.tables e below s _ _ _ (s₁.setTop (mkF m 0 #[.val (.ref a1)] []))
  refine Go.on (fun t k => XS.aloadN X0.here hx rfl (hb hby d13_0) rfl rfl k) ?_
  show Go p.tables e below s _ _ _ (s₁.setTop (mkF m 1 #[.val (.ref a1)] [(.ref a1)]))
  obtain ⟨T1, X1, e1, st1⟩ := getF X0 hx hZ hown (host := "") (Or.inl (hw _ (List.mem_of_getElem? (i := 74) rfl))) Via.refl e0 F_firstError_a1 (g := (mkF m 1 #[.val (.ref a1)] [(.ref a1)])) rfl rfl (hb hby d13_1)
  refine Go.on st1 ?_
  show Go p.tables e below s _ _ _ (T1.setTop (mkF m 4 #[.val (.ref a1)] [(.ref f)]))
  refine Go.retA X1 hx hlk (w := (.ref f)) rfl Bd.returns rfl (hb hby d13_4) (by decide) (by decide) e1 ?_
  exact ⟨rfl, N0, rfl⟩
theorem ef_0 (m : MethodId) (x0 : Int32) (x1 : Int32) (x2 : Int32) (x3 : Int32) : entryFrame m #[(.int x0), (.int x1), (.int x2), (.int x3)] maxLocals = mkF m 0 #[.val (.int x0), .val (.int x1), .val (.int x2), .val (.int x3), .unset, .unset, .unset, .unset, .unset, .unset, .unset, .unset, .unset] [] := by first | (simp [entryFrame, mkF, argsToLocals, Value.category, maxLocals]; done) | rfl
def Q0 (Z : State) (p1 : Int32) (p2 : Int32) (p3 : Int32) (p4 : Int32) (G1 : Int32) (h0 : Heap) (n0 : Nat) (v : Option Value) (h : Heap) (L : List Loc) : Prop := v = some (.int (1 : Int32)) ∧ Fr n0 L
theorem pn_com_example_loomport_loomport_loadgen_TallyErrorPinLaw : plainName "com/example/loomport/loomport/loadgen/TallyErrorPinLaw" = true := by first | (simp [plainName, overriddenIn]; done) | decide +kernel
set_option maxRecDepth 65536 in
set_option maxHeartbeats 40000000 in
theorem rm0 (l : Launch) (Z : State) (a0 : Array Value) (hw : ∀ d ∈ tables_1, d.before a0 Z = true) (ws : List Jvm.Cond) (p1 : Int32) (p2 : Int32) (p3 : Int32) (p4 : Int32) (G1 : Int32) (h0 : Heap) (n0 : Nat) (Z0 : n0 ≤ h0.size) (Old0 : Old Z n0 h0) (O2 : Sta Z Z.heap "java/lang/String" "COMPACT_STRINGS" "Z" (.int G1)) (P5 : ¬ (G1 = (0 : Int32))) :
    MetFree l x (head1 (Jvm.Cond.code x code maxLocals ret :: ws) room_1) (fun a U => a = #[(.int p1), (.int p2), (.int p3), (.int p4)] ∧ Z.Warmed39 U.vm ∧ U.heap = h0) (fun _ _ _ _ _ => True) (fun _ U o U' => ∃ v L, o = .returned v ∧ Q0 Z p1 p2 p3 p4 G1 h0 n0 v U'.heap L ∧ FrameEnd U o U' L room_1.cells room_1.slots) := by
  refine MetFree.of_bodySF (plainFor_of_name pn_com_example_loomport_loomport_loadgen_TallyErrorPinLaw) hisR ?_
  intro p e s m args below meth c s₁ Bd hml0 hP hK
  obtain ⟨rfl, hZ, hh⟩ := hP
  have hx := Bd.exec
  have hby := Bd.bytes
  have hlk : meth.locks = false := BodyLoose.notSynchronized Bd
  have hml : c.maxLocals = 13 := hml0
  have hown : s.vm.findClass "com/example/loomport/loomport/loadgen/TallyErrorPinLaw" = some m.cls := findClass_of_methodNamed Bd.named
  have hnm := (name_of_methodNamed Bd.named Bd.method).1
  have X0 : Stand p l e room_1 s m #[(.int p1), (.int p2), (.int p3), (.int p4)] below meth c s₁ [] 0 0 := Stand.of_body Bd
  have e0 : s₁.heap = h0 := by rw [← hh, Bd.state]; rfl
  have N0 := Fr.nil n0
  show Go p.tables e below s (Q0 Z p1 p2 p3 p4 G1 h0 n0) room_1.cells room_1.slots (s₁.setTop (entryFrame m #[(.int p1), (.int p2), (.int p3), (.int p4)] maxLocals))
  refine Go.on (fun t k => castTop (ef_0 m p1 p2 p3 p4) k) ?_
  show Go p.tables e below s _ _ _ (s₁.setTop (mkF m 0 #[.val (.int p1), .val (.int p2), .val (.int p3), .val (.int p4), .unset, .unset, .unset, .unset, .unset, .unset, .unset, .unset, .unset] []))
  have hws : ∀ d ∈ StrChars.Road.words, d.before a0 Z = true := fun d hd => hw d ((by decide +kernel : ∀ d ∈ StrChars.Road.words, d ∈ tables_1) d hd)
  refine Go.on (fun t k => XS.iloadN X0.here hx rfl (hb hby at_0) rfl k) ?_
  show Go p.tables e below s _ _ _ (s₁.setTop (mkF m 1 #[.val (.int p1), .val (.int p2), .val (.int p3), .val (.int p4), .unset, .unset, .unset, .unset, .unset, .unset, .unset, .unset, .unset] [(.int p1)]))
  refine Go.on (fun t k => XS.iconst X0.here hx rfl (hb hby at_1) k) ?_
  show Go p.tables e below s _ _ _ (s₁.setTop (mkF m 2 #[.val (.int p1), .val (.int p2), .val (.int p3), .val (.int p4), .unset, .unset, .unset, .unset, .unset, .unset, .unset, .unset, .unset] [(.int (3 : Int32)), (.int p1)]))
  refine Go.on (fun t k => XS.iand X0.here hx rfl (hb hby at_2) rfl k) ?_
  show Go p.tables e below s _ _ _ (s₁.setTop (mkF m 3 #[.val (.int p1), .val (.int p2), .val (.int p3), .val (.int p4), .unset, .unset, .unset, .unset, .unset, .unset, .unset, .unset, .unset] [(.int (p1 &&& (3 : Int32)))]))
  refine Go.on (fun t k => XS.istore X0.here hx rfl (hb hby at_3) rfl (l' := #[.val (.int p1), .val (.int p2), .val (.int p3), .val (.int p4), .val (.int (p1 &&& (3 : Int32))), .unset, .unset, .unset, .unset, .unset, .unset, .unset, .unset]) rfl k) ?_
  show Go p.tables e below s _ _ _ (s₁.setTop (mkF m 5 #[.val (.int p1), .val (.int p2), .val (.int p3), .val (.int p4), .val (.int (p1 &&& (3 : Int32))), .unset, .unset, .unset, .unset, .unset, .unset, .unset, .unset] []))
  obtain ⟨T1, h1, X1, e1, E1, A1, D1, -, st1⟩ := newO X0 hx hZ hown (hw _ (List.mem_of_getElem? (i := 0) rfl)) (hw _ (List.mem_of_getElem? (i := 1) rfl)) (hw _ (List.mem_of_getElem? (i := 2) rfl)) e0 (g := (mkF m 5 #[.val (.int p1), .val (.int p2), .val (.int p3), .val (.int p4), .val (.int (p1 &&& (3 : Int32))), .unset, .unset, .unset, .unset, .unset, .unset, .unset, .unset] [])) rfl (hb hby at_5) (by decide) (by decide)
  obtain ⟨b1, g1⟩ : ∃ z, z = h0.size := ⟨_, rfl⟩
  rw [← g1] at A1 D1 st1
  have ge2 : n0 ≤ b1 := Nat.le_trans Z0 (Nat.le_of_eq g1.symm)
  have Old0_4 := Old0.ext E1
  have Zp5 := Nat.le_trans Z0 E1.1
  have Fcoder_6 : Fld Z h1 b1 "java/lang/String" "coder" "B" (.int (0 : Int32)) := D1 (Or.inr (hw _ (List.mem_of_getElem? (i := 27) rfl))) (ty := .byte) (by decide)
  have Fvalue_7 : Fld Z h1 b1 "java/lang/String" "value" "[B" .null := D1 (Or.inr (hw _ (List.mem_of_getElem? (i := 29) rfl))) (ty := (.array .byte)) (by decide)
  refine Go.on st1 ?_
  show Go p.tables e below s _ _ _ (T1.setTop (mkF m 8 #[.val (.int p1), .val (.int p2), .val (.int p3), .val (.int p4), .val (.int (p1 &&& (3 : Int32))), .unset, .unset, .unset, .unset, .unset, .unset, .unset, .unset] [(.ref b1)]))
  refine Go.on (fun t k => XS.dup X1.here hx rfl (hb hby at_8) rfl rfl k) ?_
  show Go p.tables e below s _ _ _ (T1.setTop (mkF m 9 #[.val (.int p1), .val (.int p2), .val (.int p3), .val (.int p4), .val (.int (p1 &&& (3 : Int32))), .unset, .unset, .unset, .unset, .unset, .unset, .unset, .unset] [(.ref b1), (.ref b1)]))
  refine Go.on (fun t k => XS.iconst X1.here hx rfl (hb hby at_9) k) ?_
  show Go p.tables e below s _ _ _ (T1.setTop (mkF m 10 #[.val (.int p1), .val (.int p2), .val (.int p3), .val (.int p4), .val (.int (p1 &&& (3 : Int32))), .unset, .unset, .unset, .unset, .unset, .unset, .unset, .unset] [(.int (1 : Int32)), (.ref b1), (.ref b1)]))
  obtain ⟨T8, h8, k8, X8, e8, E8, A8, st8⟩ := newP X1 hx hZ (hw _ (List.mem_of_getElem? (i := 3) rfl)) e1 (g := (mkF m 10 #[.val (.int p1), .val (.int p2), .val (.int p3), .val (.int p4), .val (.int (p1 &&& (3 : Int32))), .unset, .unset, .unset, .unset, .unset, .unset, .unset, .unset] [(.int (1 : Int32)), (.ref b1), (.ref b1)])) rfl (hb hby at_10) rfl (by decide) (cap := 1) (by decide) (by decide) (by decide) (by decide)
  obtain ⟨b8, g8⟩ : ∃ z, z = h1.size := ⟨_, rfl⟩
  rw [← g8] at A8 st8
  have ne9 : b1 ≠ b8 := Nat.ne_of_lt (Nat.lt_of_lt_of_eq A1.lt g8.symm)
  have ge10 : n0 ≤ b8 := Nat.le_trans Zp5 (Nat.le_of_eq g8.symm)
  have Old0_12 := Old0_4.ext E8
  have A1_13 := A1.ext E8
  have Fcoder_14 := Fcoder_6.ext E8
  have Fvalue_15 := Fvalue_7.ext E8
  have Zp16 := Nat.le_trans Zp5 E8.1
  have Vb8_17 : Arv Z h8 b8 k8 .char (1 : Int32) [(.int (0 : Int32))] (.int (0 : Int32)) := (Arv.new A8 (by decide)).pad (pad_rep [] (.int (0 : Int32)) 1)
  refine Go.on st8 ?_
  show Go p.tables e below s _ _ _ (T8.setTop (mkF m 12 #[.val (.int p1), .val (.int p2), .val (.int p3), .val (.int p4), .val (.int (p1 &&& (3 : Int32))), .unset, .unset, .unset, .unset, .unset, .unset, .unset, .unset] [(.ref b8), (.ref b1), (.ref b1)]))
  refine Go.on (fun t k => XS.dup X8.here hx rfl (hb hby at_12) rfl rfl k) ?_
  show Go p.tables e below s _ _ _ (T8.setTop (mkF m 13 #[.val (.int p1), .val (.int p2), .val (.int p3), .val (.int p4), .val (.int (p1 &&& (3 : Int32))), .unset, .unset, .unset, .unset, .unset, .unset, .unset, .unset] [(.ref b8), (.ref b8), (.ref b1), (.ref b1)]))
  refine Go.on (fun t k => XS.iconst X8.here hx rfl (hb hby at_13) k) ?_
  show Go p.tables e below s _ _ _ (T8.setTop (mkF m 14 #[.val (.int p1), .val (.int p2), .val (.int p3), .val (.int p4), .val (.int (p1 &&& (3 : Int32))), .unset, .unset, .unset, .unset, .unset, .unset, .unset, .unset] [(.int (0 : Int32)), (.ref b8), (.ref b8), (.ref b1), (.ref b1)]))
  refine Go.on (fun t k => XS.iloadN X8.here hx rfl (hb hby at_14) rfl k) ?_
  show Go p.tables e below s _ _ _ (T8.setTop (mkF m 15 #[.val (.int p1), .val (.int p2), .val (.int p3), .val (.int p4), .val (.int (p1 &&& (3 : Int32))), .unset, .unset, .unset, .unset, .unset, .unset, .unset, .unset] [(.int p2), (.int (0 : Int32)), (.ref b8), (.ref b8), (.ref b1), (.ref b1)]))
  refine Go.on (fun t k => XS.sipush X8.here hx rfl (hb hby at_15) k) ?_
  show Go p.tables e below s _ _ _ (T8.setTop (mkF m 18 #[.val (.int p1), .val (.int p2), .val (.int p3), .val (.int p4), .val (.int (p1 &&& (3 : Int32))), .unset, .unset, .unset, .unset, .unset, .unset, .unset, .unset] [(.int (255 : Int32)), (.int p2), (.int (0 : Int32)), (.ref b8), (.ref b8), (.ref b1), (.ref b1)]))
  refine Go.on (fun t k => XS.iand X8.here hx rfl (hb hby at_18) rfl k) ?_
  show Go p.tables e below s _ _ _ (T8.setTop (mkF m 19 #[.val (.int p1), .val (.int p2), .val (.int p3), .val (.int p4), .val (.int (p1 &&& (3 : Int32))), .unset, .unset, .unset, .unset, .unset, .unset, .unset, .unset] [(.int (p2 &&& (255 : Int32))), (.int (0 : Int32)), (.ref b8), (.ref b8), (.ref b1), (.ref b1)]))
  refine Go.on (fun t k => XS.i2c X8.here hx rfl (hb hby at_19) rfl k) ?_
  show Go p.tables e below s _ _ _ (T8.setTop (mkF m 20 #[.val (.int p1), .val (.int p2), .val (.int p3), .val (.int p4), .val (.int (p1 &&& (3 : Int32))), .unset, .unset, .unset, .unset, .unset, .unset, .unset, .unset] [(.int ((p2 &&& (255 : Int32)).toUInt32.toUInt16.toUInt32.toInt32)), (.int (0 : Int32)), (.ref b8), (.ref b8), (.ref b1), (.ref b1)]))
  obtain ⟨ch0, hch0⟩ : ∃ z, z = ((p2 &&& (255 : Int32)).toUInt32.toUInt16.toUInt32.toInt32) := ⟨_, rfl⟩
  rw [← hch0]
  have hr0 : ¬ ch0 < 0 ∧ ¬ (255 : Int32) < ch0 := by rw [hch0]; exact own_c255 _
  obtain ⟨cl18, Ar18, q18, S18, M18, H18, G18⟩ := id Vb8_17
  have hin18 : ¬ ((0 : Int32) < 0 ∨ cl18.slots.size ≤ ((0 : Int32)).toNatClampNeg) := inb_of S18 ⟨by decide, by decide⟩
  obtain ⟨T18, h18, X18, e18, W18, st18⟩ := stC X8 hx hZ e8 Ar18 (j := (0 : Int32)) hin18 (g := (mkF m 20 #[.val (.int p1), .val (.int p2), .val (.int p3), .val (.int p4), .val (.int (p1 &&& (3 : Int32))), .unset, .unset, .unset, .unset, .unset, .unset, .unset, .unset] [(.int ch0), (.int (0 : Int32)), (.ref b8), (.ref b8), (.ref b1), (.ref b1)])) rfl rfl (hb hby at_20)
  rw [own_nc hr0] at W18
  have Vb8_19 : Arv Z h18 b8 k8 .char (1 : Int32) [(.int ch0)] (.int (0 : Int32)) := Arv.set Ar18 q18 S18 M18 H18 G18 (own_fc hr0) W18 0 rfl (Nat.le_of_ble_eq_true rfl)
  have Old0_20 := Old0_12.wr W18 ge10
  have A1_21 := A1_13.wr W18
  have Fcoder_22 := Fcoder_14.other W18 (Or.inl ne9)
  have Fvalue_23 := Fvalue_15.other W18 (Or.inl ne9)
  have Zp24 := Nat.le_trans Zp16 (Keep.of_wr W18).1
  have Np25 := Fr.snoc X18 N0 ge10
  refine Go.on st18 ?_
  show Go p.tables e below s _ _ _ (T18.setTop (mkF m 21 #[.val (.int p1), .val (.int p2), .val (.int p3), .val (.int p4), .val (.int (p1 &&& (3 : Int32))), .unset, .unset, .unset, .unset, .unset, .unset, .unset, .unset] [(.ref b8), (.ref b1), (.ref b1)]))
  have hp26 : ∀ c ∈ ([ch0] : List Int32), ¬ c < 0 ∧ ¬ (255 : Int32) < c := by
    intro c hc
    simp only [List.mem_cons, List.not_mem_nil, or_false] at hc
    skip
    rw [hc]; exact hr0
  obtain ⟨_, _, ⟨T26, L26, k26, n26⟩, -, X26, ⟨Lc26, hQ26, l26, y26, z26⟩, st26⟩ := X18.specialBack hx (y := (⟨"java/lang/String", "<init>", "([C)V"⟩ : MethodName)) rfl hown (mvT hZ (hw _ (List.mem_of_getElem? (i := 4) rfl))) (mvT hZ (hw _ (List.mem_of_getElem? (i := 5) rfl))) (mvT hZ (hw _ (List.mem_of_getElem? (i := 6) rfl))) (by decide) (StrChars.Road.backV (W := 1) hZ hws (kI := 4) (hw _ (List.mem_of_getElem? (i := 1) rfl)) (cs := ([ch0] : List Int32)) (bs := ([ch0] : List Int32).map (fun c => c.toInt8.toInt32)) (n := 1) ge2 Zp24 A1_21 Fvalue_23 Fcoder_22 Vb8_19 (O2.ext Old0_20.2) P5 rfl rfl (by decide) (by decide) hp26 rfl (by decide) (by decide)) (g := (mkF m 21 #[.val (.int p1), .val (.int p2), .val (.int p3), .val (.int p4), .val (.int (p1 &&& (3 : Int32))), .unset, .unset, .unset, .unset, .unset, .unset, .unset, .unset] [(.ref b8), (.ref b1), (.ref b1)])) rfl (by rw [hml]; rfl) (Steps.refl _) (a := b1) (argsL := [(.ref b8)]) (rest := [(.ref b1)]) (lenOf pd__40__91_C_41_V rfl) rfl (by show 2 * 0 + _ ≤ _; exact Nat.le_of_eq rfl) (hb hby at_21) (fun _ _ => ⟨rfl, e18, (by decide : ((0 + 1) + 1) + 1 ≤ _), (by decide : ((0 + 4) + 1) + 1 ≤ _)⟩)
  dsimp only [Pt.U, Pt.locs, Pt.cells, Pt.slots] at X26 l26 y26 z26 st26 hQ26
  subst l26 y26 z26
  obtain ⟨rfl, Nq26, Kq26, Ex26, Fc26, t26, kb26, gt26, sz26, nt26, Fv26, Kv26⟩ := hQ26
  have Old0_27 := Old0_20.keep Kq26 (allS ge2 all0)
  have A1_28 := A1_21.keep Kq26
  have Vb8_29 := Vb8_19.keep Kq26 (ninS (Ne.symm ne9) nin0)
  have Zp30 := Nat.le_trans Zp24 Kq26.1
  have Np31 := Fr.app Np25 Nq26
  refine Go.via st26 ?_
  show Go p.tables e below s _ _ _ (T26.setTop (mkF m 24 #[.val (.int p1), .val (.int p2), .val (.int p3), .val (.int p4), .val (.int (p1 &&& (3 : Int32))), .unset, .unset, .unset, .unset, .unset, .unset, .unset, .unset] [(.ref b1)]))
  refine Go.on (fun t k => XS.astore X26.here hx rfl (hb hby at_24) rfl rfl (l' := #[.val (.int p1), .val (.int p2), .val (.int p3), .val (.int p4), .val (.int (p1 &&& (3 : Int32))), .val (.ref b1), .unset, .unset, .unset, .unset, .unset, .unset, .unset]) rfl k) ?_
  show Go p.tables e below s _ _ _ (T26.setTop (mkF m 26 #[.val (.int p1), .val (.int p2), .val (.int p3), .val (.int p4), .val (.int (p1 &&& (3 : Int32))), .val (.ref b1), .unset, .unset, .unset, .unset, .unset, .unset, .unset] []))
  obtain ⟨T32, h32, X32, e32, E32, A32, D32, -, st32⟩ := newO X26 hx hZ hown (hw _ (List.mem_of_getElem? (i := 0) rfl)) (hw _ (List.mem_of_getElem? (i := 1) rfl)) (hw _ (List.mem_of_getElem? (i := 2) rfl)) rfl (g := (mkF m 26 #[.val (.int p1), .val (.int p2), .val (.int p3), .val (.int p4), .val (.int (p1 &&& (3 : Int32))), .val (.ref b1), .unset, .unset, .unset, .unset, .unset, .unset, .unset] [])) rfl (hb hby at_26) (by decide) (by decide)
  obtain ⟨b32, g32⟩ : ∃ z, z = T26.heap.size := ⟨_, rfl⟩
  rw [← g32] at A32 D32 st32
  have ne33 : b1 ≠ b32 := Nat.ne_of_lt (Nat.lt_of_lt_of_eq A1_28.lt g32.symm)
  have ne34 : b8 ≠ b32 := Nat.ne_of_lt (Nat.lt_of_lt_of_eq Vb8_29.lt g32.symm)
  have ge35 : n0 ≤ b32 := Nat.le_trans Zp30 (Nat.le_of_eq g32.symm)
  have Old0_37 := Old0_27.ext E32
  have A1_38 := A1_28.ext E32
  have Vb8_39 := Vb8_29.ext E32
  have Zp40 := Nat.le_trans Zp30 E32.1
  have Fcoder_41 : Fld Z h32 b32 "java/lang/String" "coder" "B" (.int (0 : Int32)) := D32 (Or.inr (hw _ (List.mem_of_getElem? (i := 27) rfl))) (ty := .byte) (by decide)
  have Fvalue_42 : Fld Z h32 b32 "java/lang/String" "value" "[B" .null := D32 (Or.inr (hw _ (List.mem_of_getElem? (i := 29) rfl))) (ty := (.array .byte)) (by decide)
  refine Go.on st32 ?_
  show Go p.tables e below s _ _ _ (T32.setTop (mkF m 29 #[.val (.int p1), .val (.int p2), .val (.int p3), .val (.int p4), .val (.int (p1 &&& (3 : Int32))), .val (.ref b1), .unset, .unset, .unset, .unset, .unset, .unset, .unset] [(.ref b32)]))
  refine Go.on (fun t k => XS.dup X32.here hx rfl (hb hby at_29) rfl rfl k) ?_
  show Go p.tables e below s _ _ _ (T32.setTop (mkF m 30 #[.val (.int p1), .val (.int p2), .val (.int p3), .val (.int p4), .val (.int (p1 &&& (3 : Int32))), .val (.ref b1), .unset, .unset, .unset, .unset, .unset, .unset, .unset] [(.ref b32), (.ref b32)]))
  refine Go.on (fun t k => XS.iconst X32.here hx rfl (hb hby at_30) k) ?_
  show Go p.tables e below s _ _ _ (T32.setTop (mkF m 31 #[.val (.int p1), .val (.int p2), .val (.int p3), .val (.int p4), .val (.int (p1 &&& (3 : Int32))), .val (.ref b1), .unset, .unset, .unset, .unset, .unset, .unset, .unset] [(.int (2 : Int32)), (.ref b32), (.ref b32)]))
  obtain ⟨T43, h43, k43, X43, e43, E43, A43, st43⟩ := newP X32 hx hZ (hw _ (List.mem_of_getElem? (i := 3) rfl)) e32 (g := (mkF m 31 #[.val (.int p1), .val (.int p2), .val (.int p3), .val (.int p4), .val (.int (p1 &&& (3 : Int32))), .val (.ref b1), .unset, .unset, .unset, .unset, .unset, .unset, .unset] [(.int (2 : Int32)), (.ref b32), (.ref b32)])) rfl (hb hby at_31) rfl (by decide) (cap := 2) (by decide) (by decide) (by decide) (by decide)
  obtain ⟨b43, g43⟩ : ∃ z, z = h32.size := ⟨_, rfl⟩
  rw [← g43] at A43 st43
  have ne44 : b1 ≠ b43 := Nat.ne_of_lt (Nat.lt_of_lt_of_eq A1_38.lt g43.symm)
  have ne45 : b8 ≠ b43 := Nat.ne_of_lt (Nat.lt_of_lt_of_eq Vb8_39.lt g43.symm)
  have ne46 : b32 ≠ b43 := Nat.ne_of_lt (Nat.lt_of_lt_of_eq A32.lt g43.symm)
  have ge47 : n0 ≤ b43 := Nat.le_trans Zp40 (Nat.le_of_eq g43.symm)
  have Old0_49 := Old0_37.ext E43
  have A1_50 := A1_38.ext E43
  have Vb8_51 := Vb8_39.ext E43
  have A32_52 := A32.ext E43
  have Fcoder_53 := Fcoder_41.ext E43
  have Fvalue_54 := Fvalue_42.ext E43
  have Zp55 := Nat.le_trans Zp40 E43.1
  have Vb43_56 : Arv Z h43 b43 k43 .char (2 : Int32) [(.int (0 : Int32)), (.int (0 : Int32))] (.int (0 : Int32)) := (Arv.new A43 (by decide)).pad (pad_rep [] (.int (0 : Int32)) 2)
  refine Go.on st43 ?_
  show Go p.tables e below s _ _ _ (T43.setTop (mkF m 33 #[.val (.int p1), .val (.int p2), .val (.int p3), .val (.int p4), .val (.int (p1 &&& (3 : Int32))), .val (.ref b1), .unset, .unset, .unset, .unset, .unset, .unset, .unset] [(.ref b43), (.ref b32), (.ref b32)]))
  refine Go.on (fun t k => XS.dup X43.here hx rfl (hb hby at_33) rfl rfl k) ?_
  show Go p.tables e below s _ _ _ (T43.setTop (mkF m 34 #[.val (.int p1), .val (.int p2), .val (.int p3), .val (.int p4), .val (.int (p1 &&& (3 : Int32))), .val (.ref b1), .unset, .unset, .unset, .unset, .unset, .unset, .unset] [(.ref b43), (.ref b43), (.ref b32), (.ref b32)]))
  refine Go.on (fun t k => XS.iconst X43.here hx rfl (hb hby at_34) k) ?_
  show Go p.tables e below s _ _ _ (T43.setTop (mkF m 35 #[.val (.int p1), .val (.int p2), .val (.int p3), .val (.int p4), .val (.int (p1 &&& (3 : Int32))), .val (.ref b1), .unset, .unset, .unset, .unset, .unset, .unset, .unset] [(.int (0 : Int32)), (.ref b43), (.ref b43), (.ref b32), (.ref b32)]))
  refine Go.on (fun t k => XS.iloadN X43.here hx rfl (hb hby at_35) rfl k) ?_
  show Go p.tables e below s _ _ _ (T43.setTop (mkF m 36 #[.val (.int p1), .val (.int p2), .val (.int p3), .val (.int p4), .val (.int (p1 &&& (3 : Int32))), .val (.ref b1), .unset, .unset, .unset, .unset, .unset, .unset, .unset] [(.int p3), (.int (0 : Int32)), (.ref b43), (.ref b43), (.ref b32), (.ref b32)]))
  refine Go.on (fun t k => XS.sipush X43.here hx rfl (hb hby at_36) k) ?_
  show Go p.tables e below s _ _ _ (T43.setTop (mkF m 39 #[.val (.int p1), .val (.int p2), .val (.int p3), .val (.int p4), .val (.int (p1 &&& (3 : Int32))), .val (.ref b1), .unset, .unset, .unset, .unset, .unset, .unset, .unset] [(.int (255 : Int32)), (.int p3), (.int (0 : Int32)), (.ref b43), (.ref b43), (.ref b32), (.ref b32)]))
  refine Go.on (fun t k => XS.iand X43.here hx rfl (hb hby at_39) rfl k) ?_
  show Go p.tables e below s _ _ _ (T43.setTop (mkF m 40 #[.val (.int p1), .val (.int p2), .val (.int p3), .val (.int p4), .val (.int (p1 &&& (3 : Int32))), .val (.ref b1), .unset, .unset, .unset, .unset, .unset, .unset, .unset] [(.int (p3 &&& (255 : Int32))), (.int (0 : Int32)), (.ref b43), (.ref b43), (.ref b32), (.ref b32)]))
  refine Go.on (fun t k => XS.i2c X43.here hx rfl (hb hby at_40) rfl k) ?_
  show Go p.tables e below s _ _ _ (T43.setTop (mkF m 41 #[.val (.int p1), .val (.int p2), .val (.int p3), .val (.int p4), .val (.int (p1 &&& (3 : Int32))), .val (.ref b1), .unset, .unset, .unset, .unset, .unset, .unset, .unset] [(.int ((p3 &&& (255 : Int32)).toUInt32.toUInt16.toUInt32.toInt32)), (.int (0 : Int32)), (.ref b43), (.ref b43), (.ref b32), (.ref b32)]))
  obtain ⟨ch1, hch1⟩ : ∃ z, z = ((p3 &&& (255 : Int32)).toUInt32.toUInt16.toUInt32.toInt32) := ⟨_, rfl⟩
  rw [← hch1]
  have hr1 : ¬ ch1 < 0 ∧ ¬ (255 : Int32) < ch1 := by rw [hch1]; exact own_c255 _
  obtain ⟨cl57, Ar57, q57, S57, M57, H57, G57⟩ := id Vb43_56
  have hin57 : ¬ ((0 : Int32) < 0 ∨ cl57.slots.size ≤ ((0 : Int32)).toNatClampNeg) := inb_of S57 ⟨by decide, by decide⟩
  obtain ⟨T57, h57, X57, e57, W57, st57⟩ := stC X43 hx hZ e43 Ar57 (j := (0 : Int32)) hin57 (g := (mkF m 41 #[.val (.int p1), .val (.int p2), .val (.int p3), .val (.int p4), .val (.int (p1 &&& (3 : Int32))), .val (.ref b1), .unset, .unset, .unset, .unset, .unset, .unset, .unset] [(.int ch1), (.int (0 : Int32)), (.ref b43), (.ref b43), (.ref b32), (.ref b32)])) rfl rfl (hb hby at_41)
  rw [own_nc hr1] at W57
  have Vb43_58 : Arv Z h57 b43 k43 .char (2 : Int32) [(.int ch1), (.int (0 : Int32))] (.int (0 : Int32)) := Arv.set Ar57 q57 S57 M57 H57 G57 (own_fc hr1) W57 0 rfl (Nat.le_of_ble_eq_true rfl)
  have Old0_59 := Old0_49.wr W57 ge47
  have A1_60 := A1_50.wr W57
  have Vb8_61 := Vb8_51.other W57 ne45
  have A32_62 := A32_52.wr W57
  have Fcoder_63 := Fcoder_53.other W57 (Or.inl ne46)
  have Fvalue_64 := Fvalue_54.other W57 (Or.inl ne46)
  have Zp65 := Nat.le_trans Zp55 (Keep.of_wr W57).1
  have Np66 := Fr.snoc X57 Np31 ge47
  refine Go.on st57 ?_
  show Go p.tables e below s _ _ _ (T57.setTop (mkF m 42 #[.val (.int p1), .val (.int p2), .val (.int p3), .val (.int p4), .val (.int (p1 &&& (3 : Int32))), .val (.ref b1), .unset, .unset, .unset, .unset, .unset, .unset, .unset] [(.ref b43), (.ref b32), (.ref b32)]))
  refine Go.on (fun t k => XS.dup X57.here hx rfl (hb hby at_42) rfl rfl k) ?_
  show Go p.tables e below s _ _ _ (T57.setTop (mkF m 43 #[.val (.int p1), .val (.int p2), .val (.int p3), .val (.int p4), .val (.int (p1 &&& (3 : Int32))), .val (.ref b1), .unset, .unset, .unset, .unset, .unset, .unset, .unset] [(.ref b43), (.ref b43), (.ref b32), (.ref b32)]))
  refine Go.on (fun t k => XS.iconst X57.here hx rfl (hb hby at_43) k) ?_
  show Go p.tables e below s _ _ _ (T57.setTop (mkF m 44 #[.val (.int p1), .val (.int p2), .val (.int p3), .val (.int p4), .val (.int (p1 &&& (3 : Int32))), .val (.ref b1), .unset, .unset, .unset, .unset, .unset, .unset, .unset] [(.int (1 : Int32)), (.ref b43), (.ref b43), (.ref b32), (.ref b32)]))
  refine Go.on (fun t k => XS.iloadN X57.here hx rfl (hb hby at_44) rfl k) ?_
  show Go p.tables e below s _ _ _ (T57.setTop (mkF m 45 #[.val (.int p1), .val (.int p2), .val (.int p3), .val (.int p4), .val (.int (p1 &&& (3 : Int32))), .val (.ref b1), .unset, .unset, .unset, .unset, .unset, .unset, .unset] [(.int p3), (.int (1 : Int32)), (.ref b43), (.ref b43), (.ref b32), (.ref b32)]))
  refine Go.on (fun t k => XS.bipush X57.here hx rfl (hb hby at_45) k) ?_
  show Go p.tables e below s _ _ _ (T57.setTop (mkF m 47 #[.val (.int p1), .val (.int p2), .val (.int p3), .val (.int p4), .val (.int (p1 &&& (3 : Int32))), .val (.ref b1), .unset, .unset, .unset, .unset, .unset, .unset, .unset] [(.int (8 : Int32)), (.int p3), (.int (1 : Int32)), (.ref b43), (.ref b43), (.ref b32), (.ref b32)]))
  refine Go.on (fun t k => XS.iushr X57.here hx rfl (hb hby at_47) rfl k) ?_
  show Go p.tables e below s _ _ _ (T57.setTop (mkF m 48 #[.val (.int p1), .val (.int p2), .val (.int p3), .val (.int p4), .val (.int (p1 &&& (3 : Int32))), .val (.ref b1), .unset, .unset, .unset, .unset, .unset, .unset, .unset] [(.int ((p3.toUInt32 >>> ((8 : Int32) &&& 31).toUInt32).toInt32)), (.int (1 : Int32)), (.ref b43), (.ref b43), (.ref b32), (.ref b32)]))
  refine Go.on (fun t k => XS.sipush X57.here hx rfl (hb hby at_48) k) ?_
  show Go p.tables e below s _ _ _ (T57.setTop (mkF m 51 #[.val (.int p1), .val (.int p2), .val (.int p3), .val (.int p4), .val (.int (p1 &&& (3 : Int32))), .val (.ref b1), .unset, .unset, .unset, .unset, .unset, .unset, .unset] [(.int (255 : Int32)), (.int ((p3.toUInt32 >>> ((8 : Int32) &&& 31).toUInt32).toInt32)), (.int (1 : Int32)), (.ref b43), (.ref b43), (.ref b32), (.ref b32)]))
  refine Go.on (fun t k => XS.iand X57.here hx rfl (hb hby at_51) rfl k) ?_
  show Go p.tables e below s _ _ _ (T57.setTop (mkF m 52 #[.val (.int p1), .val (.int p2), .val (.int p3), .val (.int p4), .val (.int (p1 &&& (3 : Int32))), .val (.ref b1), .unset, .unset, .unset, .unset, .unset, .unset, .unset] [(.int (((p3.toUInt32 >>> ((8 : Int32) &&& 31).toUInt32).toInt32) &&& (255 : Int32))), (.int (1 : Int32)), (.ref b43), (.ref b43), (.ref b32), (.ref b32)]))
  refine Go.on (fun t k => XS.i2c X57.here hx rfl (hb hby at_52) rfl k) ?_
  show Go p.tables e below s _ _ _ (T57.setTop (mkF m 53 #[.val (.int p1), .val (.int p2), .val (.int p3), .val (.int p4), .val (.int (p1 &&& (3 : Int32))), .val (.ref b1), .unset, .unset, .unset, .unset, .unset, .unset, .unset] [(.int ((((p3.toUInt32 >>> ((8 : Int32) &&& 31).toUInt32).toInt32) &&& (255 : Int32)).toUInt32.toUInt16.toUInt32.toInt32)), (.int (1 : Int32)), (.ref b43), (.ref b43), (.ref b32), (.ref b32)]))
  obtain ⟨ch2, hch2⟩ : ∃ z, z = ((((p3.toUInt32 >>> ((8 : Int32) &&& 31).toUInt32).toInt32) &&& (255 : Int32)).toUInt32.toUInt16.toUInt32.toInt32) := ⟨_, rfl⟩
  rw [← hch2]
  have hr2 : ¬ ch2 < 0 ∧ ¬ (255 : Int32) < ch2 := by rw [hch2]; exact own_c255 _
  obtain ⟨cl67, Ar67, q67, S67, M67, H67, G67⟩ := id Vb43_58
  have hin67 : ¬ ((1 : Int32) < 0 ∨ cl67.slots.size ≤ ((1 : Int32)).toNatClampNeg) := inb_of S67 ⟨by decide, by decide⟩
  obtain ⟨T67, h67, X67, e67, W67, st67⟩ := stC X57 hx hZ e57 Ar67 (j := (1 : Int32)) hin67 (g := (mkF m 53 #[.val (.int p1), .val (.int p2), .val (.int p3), .val (.int p4), .val (.int (p1 &&& (3 : Int32))), .val (.ref b1), .unset, .unset, .unset, .unset, .unset, .unset, .unset] [(.int ch2), (.int (1 : Int32)), (.ref b43), (.ref b43), (.ref b32), (.ref b32)])) rfl rfl (hb hby at_53)
  rw [own_nc hr2] at W67
  have Vb43_68 : Arv Z h67 b43 k43 .char (2 : Int32) [(.int ch1), (.int ch2)] (.int (0 : Int32)) := Arv.set Ar67 q67 S67 M67 H67 G67 (own_fc hr2) W67 1 rfl (Nat.le_of_ble_eq_true rfl)
  have Old0_69 := Old0_59.wr W67 ge47
  have A1_70 := A1_60.wr W67
  have Vb8_71 := Vb8_61.other W67 ne45
  have A32_72 := A32_62.wr W67
  have Fcoder_73 := Fcoder_63.other W67 (Or.inl ne46)
  have Fvalue_74 := Fvalue_64.other W67 (Or.inl ne46)
  have Zp75 := Nat.le_trans Zp65 (Keep.of_wr W67).1
  have Np76 := Fr.snoc X67 Np66 ge47
  refine Go.on st67 ?_
  show Go p.tables e below s _ _ _ (T67.setTop (mkF m 54 #[.val (.int p1), .val (.int p2), .val (.int p3), .val (.int p4), .val (.int (p1 &&& (3 : Int32))), .val (.ref b1), .unset, .unset, .unset, .unset, .unset, .unset, .unset] [(.ref b43), (.ref b32), (.ref b32)]))
  have hp77 : ∀ c ∈ ([ch1, ch2] : List Int32), ¬ c < 0 ∧ ¬ (255 : Int32) < c := by
    intro c hc
    simp only [List.mem_cons, List.not_mem_nil, or_false] at hc
    rcases hc with hc | hc
    · rw [hc]; exact hr1
    · rw [hc]; exact hr2
  obtain ⟨_, _, ⟨T77, L77, k77, n77⟩, -, X77, ⟨Lc77, hQ77, l77, y77, z77⟩, st77⟩ := X67.specialBack hx (y := (⟨"java/lang/String", "<init>", "([C)V"⟩ : MethodName)) rfl hown (mvT hZ (hw _ (List.mem_of_getElem? (i := 4) rfl))) (mvT hZ (hw _ (List.mem_of_getElem? (i := 5) rfl))) (mvT hZ (hw _ (List.mem_of_getElem? (i := 6) rfl))) (by decide) (StrChars.Road.backV (W := 1) hZ hws (kI := 4) (hw _ (List.mem_of_getElem? (i := 1) rfl)) (cs := ([ch1, ch2] : List Int32)) (bs := ([ch1, ch2] : List Int32).map (fun c => c.toInt8.toInt32)) (n := 2) ge35 Zp75 A32_72 Fvalue_74 Fcoder_73 Vb43_68 (O2.ext Old0_69.2) P5 rfl rfl (by decide) (by decide) hp77 rfl (by decide) (by decide)) (g := (mkF m 54 #[.val (.int p1), .val (.int p2), .val (.int p3), .val (.int p4), .val (.int (p1 &&& (3 : Int32))), .val (.ref b1), .unset, .unset, .unset, .unset, .unset, .unset, .unset] [(.ref b43), (.ref b32), (.ref b32)])) rfl (by rw [hml]; rfl) (Steps.refl _) (a := b32) (argsL := [(.ref b43)]) (rest := [(.ref b32)]) (lenOf pd__40__91_C_41_V rfl) rfl (by show 2 * 0 + _ ≤ _; exact Nat.le_of_eq rfl) (hb hby at_54) (fun _ _ => ⟨rfl, e67, (by decide : (((((0 + 1) + 1) + 1) + 1) + 1) + 1 ≤ _), (by decide : (((((0 + 4) + 1) + 1) + 4) + 2) + 2 ≤ _)⟩)
  dsimp only [Pt.U, Pt.locs, Pt.cells, Pt.slots] at X77 l77 y77 z77 st77 hQ77
  subst l77 y77 z77
  obtain ⟨rfl, Nq77, Kq77, Ex77, Fc77, t77, kb77, gt77, sz77, nt77, Fv77, Kv77⟩ := hQ77
  have Old0_78 := Old0_69.keep Kq77 (allS ge35 all0)
  have A1_79 := A1_70.keep Kq77
  have Vb8_80 := Vb8_71.keep Kq77 (ninS ne34 nin0)
  have A32_81 := A32_72.keep Kq77
  have Vb43_82 := Vb43_68.keep Kq77 (ninS (Ne.symm ne46) nin0)
  have Zp83 := Nat.le_trans Zp75 Kq77.1
  have Np84 := Fr.app Np76 Nq77
  refine Go.via st77 ?_
  show Go p.tables e below s _ _ _ (T77.setTop (mkF m 57 #[.val (.int p1), .val (.int p2), .val (.int p3), .val (.int p4), .val (.int (p1 &&& (3 : Int32))), .val (.ref b1), .unset, .unset, .unset, .unset, .unset, .unset, .unset] [(.ref b32)]))
  refine Go.on (fun t k => XS.astore X77.here hx rfl (hb hby at_57) rfl rfl (l' := #[.val (.int p1), .val (.int p2), .val (.int p3), .val (.int p4), .val (.int (p1 &&& (3 : Int32))), .val (.ref b1), .val (.ref b32), .unset, .unset, .unset, .unset, .unset, .unset]) rfl k) ?_
  show Go p.tables e below s _ _ _ (T77.setTop (mkF m 59 #[.val (.int p1), .val (.int p2), .val (.int p3), .val (.int p4), .val (.int (p1 &&& (3 : Int32))), .val (.ref b1), .val (.ref b32), .unset, .unset, .unset, .unset, .unset, .unset] []))
  obtain ⟨T85, h85, X85, e85, E85, A85, D85, -, st85⟩ := newO X77 hx hZ hown (hw _ (List.mem_of_getElem? (i := 0) rfl)) (hw _ (List.mem_of_getElem? (i := 1) rfl)) (hw _ (List.mem_of_getElem? (i := 2) rfl)) rfl (g := (mkF m 59 #[.val (.int p1), .val (.int p2), .val (.int p3), .val (.int p4), .val (.int (p1 &&& (3 : Int32))), .val (.ref b1), .val (.ref b32), .unset, .unset, .unset, .unset, .unset, .unset] [])) rfl (hb hby at_59) (by decide) (by decide)
  obtain ⟨b85, g85⟩ : ∃ z, z = T77.heap.size := ⟨_, rfl⟩
  rw [← g85] at A85 D85 st85
  have ne86 : b1 ≠ b85 := Nat.ne_of_lt (Nat.lt_of_lt_of_eq A1_79.lt g85.symm)
  have ne87 : b8 ≠ b85 := Nat.ne_of_lt (Nat.lt_of_lt_of_eq Vb8_80.lt g85.symm)
  have ne88 : b32 ≠ b85 := Nat.ne_of_lt (Nat.lt_of_lt_of_eq A32_81.lt g85.symm)
  have ne89 : b43 ≠ b85 := Nat.ne_of_lt (Nat.lt_of_lt_of_eq Vb43_82.lt g85.symm)
  have ge90 : n0 ≤ b85 := Nat.le_trans Zp83 (Nat.le_of_eq g85.symm)
  have Old0_92 := Old0_78.ext E85
  have A1_93 := A1_79.ext E85
  have Vb8_94 := Vb8_80.ext E85
  have A32_95 := A32_81.ext E85
  have Vb43_96 := Vb43_82.ext E85
  have Zp97 := Nat.le_trans Zp83 E85.1
  have Fcoder_98 : Fld Z h85 b85 "java/lang/String" "coder" "B" (.int (0 : Int32)) := D85 (Or.inr (hw _ (List.mem_of_getElem? (i := 27) rfl))) (ty := .byte) (by decide)
  have Fvalue_99 : Fld Z h85 b85 "java/lang/String" "value" "[B" .null := D85 (Or.inr (hw _ (List.mem_of_getElem? (i := 29) rfl))) (ty := (.array .byte)) (by decide)
  refine Go.on st85 ?_
  show Go p.tables e below s _ _ _ (T85.setTop (mkF m 62 #[.val (.int p1), .val (.int p2), .val (.int p3), .val (.int p4), .val (.int (p1 &&& (3 : Int32))), .val (.ref b1), .val (.ref b32), .unset, .unset, .unset, .unset, .unset, .unset] [(.ref b85)]))
  refine Go.on (fun t k => XS.dup X85.here hx rfl (hb hby at_62) rfl rfl k) ?_
  show Go p.tables e below s _ _ _ (T85.setTop (mkF m 63 #[.val (.int p1), .val (.int p2), .val (.int p3), .val (.int p4), .val (.int (p1 &&& (3 : Int32))), .val (.ref b1), .val (.ref b32), .unset, .unset, .unset, .unset, .unset, .unset] [(.ref b85), (.ref b85)]))
  refine Go.on (fun t k => XS.iconst X85.here hx rfl (hb hby at_63) k) ?_
  show Go p.tables e below s _ _ _ (T85.setTop (mkF m 64 #[.val (.int p1), .val (.int p2), .val (.int p3), .val (.int p4), .val (.int (p1 &&& (3 : Int32))), .val (.ref b1), .val (.ref b32), .unset, .unset, .unset, .unset, .unset, .unset] [(.int (1 : Int32)), (.ref b85), (.ref b85)]))
  obtain ⟨T100, h100, k100, X100, e100, E100, A100, st100⟩ := newP X85 hx hZ (hw _ (List.mem_of_getElem? (i := 3) rfl)) e85 (g := (mkF m 64 #[.val (.int p1), .val (.int p2), .val (.int p3), .val (.int p4), .val (.int (p1 &&& (3 : Int32))), .val (.ref b1), .val (.ref b32), .unset, .unset, .unset, .unset, .unset, .unset] [(.int (1 : Int32)), (.ref b85), (.ref b85)])) rfl (hb hby at_64) rfl (by decide) (cap := 1) (by decide) (by decide) (by decide) (by decide)
  obtain ⟨b100, g100⟩ : ∃ z, z = h85.size := ⟨_, rfl⟩
  rw [← g100] at A100 st100
  have ne101 : b1 ≠ b100 := Nat.ne_of_lt (Nat.lt_of_lt_of_eq A1_93.lt g100.symm)
  have ne102 : b8 ≠ b100 := Nat.ne_of_lt (Nat.lt_of_lt_of_eq Vb8_94.lt g100.symm)
  have ne103 : b32 ≠ b100 := Nat.ne_of_lt (Nat.lt_of_lt_of_eq A32_95.lt g100.symm)
  have ne104 : b43 ≠ b100 := Nat.ne_of_lt (Nat.lt_of_lt_of_eq Vb43_96.lt g100.symm)
  have ne105 : b85 ≠ b100 := Nat.ne_of_lt (Nat.lt_of_lt_of_eq A85.lt g100.symm)
  have ge106 : n0 ≤ b100 := Nat.le_trans Zp97 (Nat.le_of_eq g100.symm)
  have Old0_108 := Old0_92.ext E100
  have A1_109 := A1_93.ext E100
  have Vb8_110 := Vb8_94.ext E100
  have A32_111 := A32_95.ext E100
  have Vb43_112 := Vb43_96.ext E100
  have A85_113 := A85.ext E100
  have Fcoder_114 := Fcoder_98.ext E100
  have Fvalue_115 := Fvalue_99.ext E100
  have Zp116 := Nat.le_trans Zp97 E100.1
  have Vb100_117 : Arv Z h100 b100 k100 .char (1 : Int32) [(.int (0 : Int32))] (.int (0 : Int32)) := (Arv.new A100 (by decide)).pad (pad_rep [] (.int (0 : Int32)) 1)
  refine Go.on st100 ?_
  show Go p.tables e below s _ _ _ (T100.setTop (mkF m 66 #[.val (.int p1), .val (.int p2), .val (.int p3), .val (.int p4), .val (.int (p1 &&& (3 : Int32))), .val (.ref b1), .val (.ref b32), .unset, .unset, .unset, .unset, .unset, .unset] [(.ref b100), (.ref b85), (.ref b85)]))
  refine Go.on (fun t k => XS.dup X100.here hx rfl (hb hby at_66) rfl rfl k) ?_
  show Go p.tables e below s _ _ _ (T100.setTop (mkF m 67 #[.val (.int p1), .val (.int p2), .val (.int p3), .val (.int p4), .val (.int (p1 &&& (3 : Int32))), .val (.ref b1), .val (.ref b32), .unset, .unset, .unset, .unset, .unset, .unset] [(.ref b100), (.ref b100), (.ref b85), (.ref b85)]))
  refine Go.on (fun t k => XS.iconst X100.here hx rfl (hb hby at_67) k) ?_
  show Go p.tables e below s _ _ _ (T100.setTop (mkF m 68 #[.val (.int p1), .val (.int p2), .val (.int p3), .val (.int p4), .val (.int (p1 &&& (3 : Int32))), .val (.ref b1), .val (.ref b32), .unset, .unset, .unset, .unset, .unset, .unset] [(.int (0 : Int32)), (.ref b100), (.ref b100), (.ref b85), (.ref b85)]))
  refine Go.on (fun t k => XS.iloadN X100.here hx rfl (hb hby at_68) rfl k) ?_
  show Go p.tables e below s _ _ _ (T100.setTop (mkF m 69 #[.val (.int p1), .val (.int p2), .val (.int p3), .val (.int p4), .val (.int (p1 &&& (3 : Int32))), .val (.ref b1), .val (.ref b32), .unset, .unset, .unset, .unset, .unset, .unset] [(.int p4), (.int (0 : Int32)), (.ref b100), (.ref b100), (.ref b85), (.ref b85)]))
  refine Go.on (fun t k => XS.sipush X100.here hx rfl (hb hby at_69) k) ?_
  show Go p.tables e below s _ _ _ (T100.setTop (mkF m 72 #[.val (.int p1), .val (.int p2), .val (.int p3), .val (.int p4), .val (.int (p1 &&& (3 : Int32))), .val (.ref b1), .val (.ref b32), .unset, .unset, .unset, .unset, .unset, .unset] [(.int (255 : Int32)), (.int p4), (.int (0 : Int32)), (.ref b100), (.ref b100), (.ref b85), (.ref b85)]))
  refine Go.on (fun t k => XS.iand X100.here hx rfl (hb hby at_72) rfl k) ?_
  show Go p.tables e below s _ _ _ (T100.setTop (mkF m 73 #[.val (.int p1), .val (.int p2), .val (.int p3), .val (.int p4), .val (.int (p1 &&& (3 : Int32))), .val (.ref b1), .val (.ref b32), .unset, .unset, .unset, .unset, .unset, .unset] [(.int (p4 &&& (255 : Int32))), (.int (0 : Int32)), (.ref b100), (.ref b100), (.ref b85), (.ref b85)]))
  refine Go.on (fun t k => XS.i2c X100.here hx rfl (hb hby at_73) rfl k) ?_
  show Go p.tables e below s _ _ _ (T100.setTop (mkF m 74 #[.val (.int p1), .val (.int p2), .val (.int p3), .val (.int p4), .val (.int (p1 &&& (3 : Int32))), .val (.ref b1), .val (.ref b32), .unset, .unset, .unset, .unset, .unset, .unset] [(.int ((p4 &&& (255 : Int32)).toUInt32.toUInt16.toUInt32.toInt32)), (.int (0 : Int32)), (.ref b100), (.ref b100), (.ref b85), (.ref b85)]))
  obtain ⟨ch3, hch3⟩ : ∃ z, z = ((p4 &&& (255 : Int32)).toUInt32.toUInt16.toUInt32.toInt32) := ⟨_, rfl⟩
  rw [← hch3]
  have hr3 : ¬ ch3 < 0 ∧ ¬ (255 : Int32) < ch3 := by rw [hch3]; exact own_c255 _
  obtain ⟨cl118, Ar118, q118, S118, M118, H118, G118⟩ := id Vb100_117
  have hin118 : ¬ ((0 : Int32) < 0 ∨ cl118.slots.size ≤ ((0 : Int32)).toNatClampNeg) := inb_of S118 ⟨by decide, by decide⟩
  obtain ⟨T118, h118, X118, e118, W118, st118⟩ := stC X100 hx hZ e100 Ar118 (j := (0 : Int32)) hin118 (g := (mkF m 74 #[.val (.int p1), .val (.int p2), .val (.int p3), .val (.int p4), .val (.int (p1 &&& (3 : Int32))), .val (.ref b1), .val (.ref b32), .unset, .unset, .unset, .unset, .unset, .unset] [(.int ch3), (.int (0 : Int32)), (.ref b100), (.ref b100), (.ref b85), (.ref b85)])) rfl rfl (hb hby at_74)
  rw [own_nc hr3] at W118
  have Vb100_119 : Arv Z h118 b100 k100 .char (1 : Int32) [(.int ch3)] (.int (0 : Int32)) := Arv.set Ar118 q118 S118 M118 H118 G118 (own_fc hr3) W118 0 rfl (Nat.le_of_ble_eq_true rfl)
  have Old0_120 := Old0_108.wr W118 ge106
  have A1_121 := A1_109.wr W118
  have Vb8_122 := Vb8_110.other W118 ne102
  have A32_123 := A32_111.wr W118
  have Vb43_124 := Vb43_112.other W118 ne104
  have A85_125 := A85_113.wr W118
  have Fcoder_126 := Fcoder_114.other W118 (Or.inl ne105)
  have Fvalue_127 := Fvalue_115.other W118 (Or.inl ne105)
  have Zp128 := Nat.le_trans Zp116 (Keep.of_wr W118).1
  have Np129 := Fr.snoc X118 Np84 ge106
  refine Go.on st118 ?_
  show Go p.tables e below s _ _ _ (T118.setTop (mkF m 75 #[.val (.int p1), .val (.int p2), .val (.int p3), .val (.int p4), .val (.int (p1 &&& (3 : Int32))), .val (.ref b1), .val (.ref b32), .unset, .unset, .unset, .unset, .unset, .unset] [(.ref b100), (.ref b85), (.ref b85)]))
  have hp130 : ∀ c ∈ ([ch3] : List Int32), ¬ c < 0 ∧ ¬ (255 : Int32) < c := by
    intro c hc
    simp only [List.mem_cons, List.not_mem_nil, or_false] at hc
    skip
    rw [hc]; exact hr3
  obtain ⟨_, _, ⟨T130, L130, k130, n130⟩, -, X130, ⟨Lc130, hQ130, l130, y130, z130⟩, st130⟩ := X118.specialBack hx (y := (⟨"java/lang/String", "<init>", "([C)V"⟩ : MethodName)) rfl hown (mvT hZ (hw _ (List.mem_of_getElem? (i := 4) rfl))) (mvT hZ (hw _ (List.mem_of_getElem? (i := 5) rfl))) (mvT hZ (hw _ (List.mem_of_getElem? (i := 6) rfl))) (by decide) (StrChars.Road.backV (W := 1) hZ hws (kI := 4) (hw _ (List.mem_of_getElem? (i := 1) rfl)) (cs := ([ch3] : List Int32)) (bs := ([ch3] : List Int32).map (fun c => c.toInt8.toInt32)) (n := 1) ge90 Zp128 A85_125 Fvalue_127 Fcoder_126 Vb100_119 (O2.ext Old0_120.2) P5 rfl rfl (by decide) (by decide) hp130 rfl (by decide) (by decide)) (g := (mkF m 75 #[.val (.int p1), .val (.int p2), .val (.int p3), .val (.int p4), .val (.int (p1 &&& (3 : Int32))), .val (.ref b1), .val (.ref b32), .unset, .unset, .unset, .unset, .unset, .unset] [(.ref b100), (.ref b85), (.ref b85)])) rfl (by rw [hml]; rfl) (Steps.refl _) (a := b85) (argsL := [(.ref b100)]) (rest := [(.ref b85)]) (lenOf pd__40__91_C_41_V rfl) rfl (by show 2 * 0 + _ ≤ _; exact Nat.le_of_eq rfl) (hb hby at_75) (fun _ _ => ⟨rfl, e118, (by decide : ((((((((0 + 1) + 1) + 1) + 1) + 1) + 1) + 1) + 1) + 1 ≤ _), (by decide : ((((((((0 + 4) + 1) + 1) + 4) + 2) + 2) + 4) + 1) + 1 ≤ _)⟩)
  dsimp only [Pt.U, Pt.locs, Pt.cells, Pt.slots] at X130 l130 y130 z130 st130 hQ130
  subst l130 y130 z130
  obtain ⟨rfl, Nq130, Kq130, Ex130, Fc130, t130, kb130, gt130, sz130, nt130, Fv130, Kv130⟩ := hQ130
  have Old0_131 := Old0_120.keep Kq130 (allS ge90 all0)
  have A1_132 := A1_121.keep Kq130
  have Vb8_133 := Vb8_122.keep Kq130 (ninS ne87 nin0)
  have A32_134 := A32_123.keep Kq130
  have Vb43_135 := Vb43_124.keep Kq130 (ninS ne89 nin0)
  have A85_136 := A85_125.keep Kq130
  have Vb100_137 := Vb100_119.keep Kq130 (ninS (Ne.symm ne105) nin0)
  have Zp138 := Nat.le_trans Zp128 Kq130.1
  have Np139 := Fr.app Np129 Nq130
  refine Go.via st130 ?_
  show Go p.tables e below s _ _ _ (T130.setTop (mkF m 78 #[.val (.int p1), .val (.int p2), .val (.int p3), .val (.int p4), .val (.int (p1 &&& (3 : Int32))), .val (.ref b1), .val (.ref b32), .unset, .unset, .unset, .unset, .unset, .unset] [(.ref b85)]))
  refine Go.on (fun t k => XS.astore X130.here hx rfl (hb hby at_78) rfl rfl (l' := #[.val (.int p1), .val (.int p2), .val (.int p3), .val (.int p4), .val (.int (p1 &&& (3 : Int32))), .val (.ref b1), .val (.ref b32), .val (.ref b85), .unset, .unset, .unset, .unset, .unset]) rfl k) ?_
  show Go p.tables e below s _ _ _ (T130.setTop (mkF m 80 #[.val (.int p1), .val (.int p2), .val (.int p3), .val (.int p4), .val (.int (p1 &&& (3 : Int32))), .val (.ref b1), .val (.ref b32), .val (.ref b85), .unset, .unset, .unset, .unset, .unset] []))
  obtain ⟨T140, h140, X140, e140, E140, A140, D140, -, st140⟩ := newO X130 hx hZ hown (hw _ (List.mem_of_getElem? (i := 30) rfl)) (hw _ (List.mem_of_getElem? (i := 31) rfl)) (hw _ (List.mem_of_getElem? (i := 32) rfl)) rfl (g := (mkF m 80 #[.val (.int p1), .val (.int p2), .val (.int p3), .val (.int p4), .val (.int (p1 &&& (3 : Int32))), .val (.ref b1), .val (.ref b32), .val (.ref b85), .unset, .unset, .unset, .unset, .unset] [])) rfl (hb hby at_80) (by decide) (by decide)
  obtain ⟨b140, g140⟩ : ∃ z, z = T130.heap.size := ⟨_, rfl⟩
  rw [← g140] at A140 D140 st140
  have ne141 : b1 ≠ b140 := Nat.ne_of_lt (Nat.lt_of_lt_of_eq A1_132.lt g140.symm)
  have ne142 : b8 ≠ b140 := Nat.ne_of_lt (Nat.lt_of_lt_of_eq Vb8_133.lt g140.symm)
  have ne143 : b32 ≠ b140 := Nat.ne_of_lt (Nat.lt_of_lt_of_eq A32_134.lt g140.symm)
  have ne144 : b43 ≠ b140 := Nat.ne_of_lt (Nat.lt_of_lt_of_eq Vb43_135.lt g140.symm)
  have ne145 : b85 ≠ b140 := Nat.ne_of_lt (Nat.lt_of_lt_of_eq A85_136.lt g140.symm)
  have ne146 : b100 ≠ b140 := Nat.ne_of_lt (Nat.lt_of_lt_of_eq Vb100_137.lt g140.symm)
  have ge147 : n0 ≤ b140 := Nat.le_trans Zp138 (Nat.le_of_eq g140.symm)
  have Old0_149 := Old0_131.ext E140
  have A1_150 := A1_132.ext E140
  have Vb8_151 := Vb8_133.ext E140
  have A32_152 := A32_134.ext E140
  have Vb43_153 := Vb43_135.ext E140
  have A85_154 := A85_136.ext E140
  have Vb100_155 := Vb100_137.ext E140
  have Zp156 := Nat.le_trans Zp138 E140.1
  have Flatencies_157 : Fld Z h140 b140 "com/example/loomport/loomport/loadgen/Tally" "latencies" "Lcom/example/loomport/loomport/loadgen/Latencies;" .null := D140 (Or.inr (hw _ (List.mem_of_getElem? (i := 61) rfl))) (ty := (.object "com/example/loomport/loomport/loadgen/Latencies")) (by decide)
  have Ferrors_158 : Fld Z h140 b140 "com/example/loomport/loomport/loadgen/Tally" "errors" "J" (.long (0 : Int64)) := D140 (Or.inl (hw _ (List.mem_of_getElem? (i := 68) rfl))) (ty := .long) (by decide)
  have FfirstError_159 : Fld Z h140 b140 "com/example/loomport/loomport/loadgen/Tally" "firstError" "Ljava/lang/String;" .null := D140 (Or.inl (hw _ (List.mem_of_getElem? (i := 75) rfl))) (ty := (.object "java/lang/String")) (by decide)
  refine Go.on st140 ?_
  show Go p.tables e below s _ _ _ (T140.setTop (mkF m 83 #[.val (.int p1), .val (.int p2), .val (.int p3), .val (.int p4), .val (.int (p1 &&& (3 : Int32))), .val (.ref b1), .val (.ref b32), .val (.ref b85), .unset, .unset, .unset, .unset, .unset] [(.ref b140)]))
  refine Go.on (fun t k => XS.dup X140.here hx rfl (hb hby at_83) rfl rfl k) ?_
  show Go p.tables e below s _ _ _ (T140.setTop (mkF m 84 #[.val (.int p1), .val (.int p2), .val (.int p3), .val (.int p4), .val (.int (p1 &&& (3 : Int32))), .val (.ref b1), .val (.ref b32), .val (.ref b85), .unset, .unset, .unset, .unset, .unset] [(.ref b140), (.ref b140)]))
  obtain ⟨_, _, ⟨T160, L160, k160, n160⟩, -, X160, ⟨Lc160, hQ160, l160, y160, z160⟩, st160⟩ := X140.specialBack hx (y := (⟨"com/example/loomport/loomport/loadgen/Tally", "<init>", "()V"⟩ : MethodName)) rfl hown (mvT hZ (hw _ (List.mem_of_getElem? (i := 33) rfl))) (mvT hZ (hw _ (List.mem_of_getElem? (i := 34) rfl))) (mvT hZ (hw _ (List.mem_of_getElem? (i := 35) rfl))) (by decide) (backOf (W := 1) (rm7 l Z a0 hw [] b140 h140 n0 Zp156 A140 ge147 Flatencies_157 Ferrors_158 FfirstError_159) hZ (hw _ (List.mem_of_getElem? (i := 35) rfl)) (hw _ (List.mem_of_getElem? (i := 32) rfl)) (by decide) (by decide)) (g := (mkF m 84 #[.val (.int p1), .val (.int p2), .val (.int p3), .val (.int p4), .val (.int (p1 &&& (3 : Int32))), .val (.ref b1), .val (.ref b32), .val (.ref b85), .unset, .unset, .unset, .unset, .unset] [(.ref b140), (.ref b140)])) rfl (by rw [hml]; rfl) (Steps.refl _) (a := b140) (argsL := []) (rest := [(.ref b140)]) (lenOf pd__40__41_V rfl) rfl (by show 2 * 0 + _ ≤ _; exact Nat.le_of_eq rfl) (hb hby at_84) (fun _ _ => ⟨rfl, e140, (by decide : ((((((((((0 + 1) + 1) + 1) + 1) + 1) + 1) + 1) + 1) + 1) + 1) + 2 ≤ _), (by decide : ((((((((((0 + 4) + 1) + 1) + 4) + 2) + 2) + 4) + 1) + 1) + 7) + 45058 ≤ _)⟩)
  dsimp only [Pt.U, Pt.locs, Pt.cells, Pt.slots] at X160 l160 y160 z160 st160 hQ160
  subst l160 y160 z160
  obtain ⟨rfl, Nq160, Kq160, P160_0, P160_1⟩ := hQ160
  have Old0_161 := Old0_149.keep Kq160 (allS ge147 all0)
  have A1_162 := A1_150.keep Kq160
  have Vb8_163 := Vb8_151.keep Kq160 (ninS ne142 nin0)
  have A32_164 := A32_152.keep Kq160
  have Vb43_165 := Vb43_153.keep Kq160 (ninS ne144 nin0)
  have A85_166 := A85_154.keep Kq160
  have Vb100_167 := Vb100_155.keep Kq160 (ninS ne146 nin0)
  have A140_168 := A140.keep Kq160
  have Zp169 := Nat.le_trans Zp156 Kq160.1
  have Np170 := Fr.app Np139 Nq160
  refine Go.via st160 ?_
  show Go p.tables e below s _ _ _ (T160.setTop (mkF m 87 #[.val (.int p1), .val (.int p2), .val (.int p3), .val (.int p4), .val (.int (p1 &&& (3 : Int32))), .val (.ref b1), .val (.ref b32), .val (.ref b85), .unset, .unset, .unset, .unset, .unset] [(.ref b140)]))
  refine Go.on (fun t k => XS.astore X160.here hx rfl (hb hby at_87) rfl rfl (l' := #[.val (.int p1), .val (.int p2), .val (.int p3), .val (.int p4), .val (.int (p1 &&& (3 : Int32))), .val (.ref b1), .val (.ref b32), .val (.ref b85), .val (.ref b140), .unset, .unset, .unset, .unset]) rfl k) ?_
  show Go p.tables e below s _ _ _ (T160.setTop (mkF m 89 #[.val (.int p1), .val (.int p2), .val (.int p3), .val (.int p4), .val (.int (p1 &&& (3 : Int32))), .val (.ref b1), .val (.ref b32), .val (.ref b85), .val (.ref b140), .unset, .unset, .unset, .unset] []))
  rcases own_and3 p1 with hk | hk | hk | hk
  · rw [hk]
    show Go p.tables e below s _ _ _ (T160.setTop (mkF m 89 #[.val (.int p1), .val (.int p2), .val (.int p3), .val (.int p4), .val (.int (0 : Int32)), .val (.ref b1), .val (.ref b32), .val (.ref b85), .val (.ref b140), .unset, .unset, .unset, .unset] []))
    refine Go.on (fun t k => XS.iload X160.here hx rfl (hb hby at_89) rfl k) ?_
    show Go p.tables e below s _ _ _ (T160.setTop (mkF m 91 #[.val (.int p1), .val (.int p2), .val (.int p3), .val (.int p4), .val (.int (0 : Int32)), .val (.ref b1), .val (.ref b32), .val (.ref b85), .val (.ref b140), .unset, .unset, .unset, .unset] [(.int (0 : Int32))]))
    refine Go.on (fun t k => XS.iconst X160.here hx rfl (hb hby at_91) k) ?_
    show Go p.tables e below s _ _ _ (T160.setTop (mkF m 92 #[.val (.int p1), .val (.int p2), .val (.int p3), .val (.int p4), .val (.int (0 : Int32)), .val (.ref b1), .val (.ref b32), .val (.ref b85), .val (.ref b140), .unset, .unset, .unset, .unset] [(.int (1 : Int32)), (.int (0 : Int32))]))
    refine Go.on (fun t k => XS.icmpYes X160.here hx rfl (pc0 := 92) (pc' := 102) rfl (hb hby at_92) rfl (tlt (by decide : (0 : Int32) < (1 : Int32))).1 (by decide) (by decide) k) ?_
    show Go p.tables e below s _ _ _ (T160.setTop (mkF m 102 #[.val (.int p1), .val (.int p2), .val (.int p3), .val (.int p4), .val (.int (0 : Int32)), .val (.ref b1), .val (.ref b32), .val (.ref b85), .val (.ref b140), .unset, .unset, .unset, .unset] []))
    refine Go.on (fun t k => XS.iload X160.here hx rfl (hb hby at_102) rfl k) ?_
    show Go p.tables e below s _ _ _ (T160.setTop (mkF m 104 #[.val (.int p1), .val (.int p2), .val (.int p3), .val (.int p4), .val (.int (0 : Int32)), .val (.ref b1), .val (.ref b32), .val (.ref b85), .val (.ref b140), .unset, .unset, .unset, .unset] [(.int (0 : Int32))]))
    refine Go.on (fun t k => XS.iconst X160.here hx rfl (hb hby at_104) k) ?_
    show Go p.tables e below s _ _ _ (T160.setTop (mkF m 105 #[.val (.int p1), .val (.int p2), .val (.int p3), .val (.int p4), .val (.int (0 : Int32)), .val (.ref b1), .val (.ref b32), .val (.ref b85), .val (.ref b140), .unset, .unset, .unset, .unset] [(.int (2 : Int32)), (.int (0 : Int32))]))
    refine Go.on (fun t k => XS.icmpYes X160.here hx rfl (pc0 := 105) (pc' := 115) rfl (hb hby at_105) rfl (tlt (by decide : (0 : Int32) < (2 : Int32))).1 (by decide) (by decide) k) ?_
    show Go p.tables e below s _ _ _ (T160.setTop (mkF m 115 #[.val (.int p1), .val (.int p2), .val (.int p3), .val (.int p4), .val (.int (0 : Int32)), .val (.ref b1), .val (.ref b32), .val (.ref b85), .val (.ref b140), .unset, .unset, .unset, .unset] []))
    refine Go.on (fun t k => XS.iload X160.here hx rfl (hb hby at_115) rfl k) ?_
    show Go p.tables e below s _ _ _ (T160.setTop (mkF m 117 #[.val (.int p1), .val (.int p2), .val (.int p3), .val (.int p4), .val (.int (0 : Int32)), .val (.ref b1), .val (.ref b32), .val (.ref b85), .val (.ref b140), .unset, .unset, .unset, .unset] [(.int (0 : Int32))]))
    refine Go.on (fun t k => XS.iconst X160.here hx rfl (hb hby at_117) k) ?_
    show Go p.tables e below s _ _ _ (T160.setTop (mkF m 118 #[.val (.int p1), .val (.int p2), .val (.int p3), .val (.int p4), .val (.int (0 : Int32)), .val (.ref b1), .val (.ref b32), .val (.ref b85), .val (.ref b140), .unset, .unset, .unset, .unset] [(.int (3 : Int32)), (.int (0 : Int32))]))
    refine Go.on (fun t k => XS.icmpYes X160.here hx rfl (pc0 := 118) (pc' := 128) rfl (hb hby at_118) rfl (tlt (by decide : (0 : Int32) < (3 : Int32))).1 (by decide) (by decide) k) ?_
    show Go p.tables e below s _ _ _ (T160.setTop (mkF m 128 #[.val (.int p1), .val (.int p2), .val (.int p3), .val (.int p4), .val (.int (0 : Int32)), .val (.ref b1), .val (.ref b32), .val (.ref b85), .val (.ref b140), .unset, .unset, .unset, .unset] []))
    refine Go.on (fun t k => XS.aload X160.here hx rfl (hb hby at_128) rfl rfl k) ?_
    show Go p.tables e below s _ _ _ (T160.setTop (mkF m 130 #[.val (.int p1), .val (.int p2), .val (.int p3), .val (.int p4), .val (.int (0 : Int32)), .val (.ref b1), .val (.ref b32), .val (.ref b85), .val (.ref b140), .unset, .unset, .unset, .unset] [(.ref b140)]))
    obtain ⟨cq172, kq172, q172a, q172b, q172c⟩ := isOf hZ rfl A140_168
    obtain ⟨_, _, ⟨T172, L172, k172, n172⟩, -, X172, ⟨Lc172, hQ172, l172, y172, z172⟩, st172⟩ := X160.virtualBack hx (y := (⟨"com/example/loomport/loomport/loadgen/Tally", "errors", "()J"⟩ : MethodName)) (z := (⟨"com/example/loomport/loomport/loadgen/Tally", "errors", "()J"⟩ : MethodName)) hown (mvT hZ (hw _ (List.mem_of_getElem? (i := 62) rfl))) (mvT hZ (hw _ (List.mem_of_getElem? (i := 63) rfl))) (notFace_of_selects (args := #[]) (mvT hZ (hw _ (List.mem_of_getElem? (i := 65) rfl)))) (mvT hZ (hw _ (List.mem_of_getElem? (i := 65) rfl))) (mvT hZ (hw _ (List.mem_of_getElem? (i := 64) rfl))) (by decide) (backOf (W := 0) (rm12 l Z a0 hw [] b140 (0 : Int64) T160.heap n0 Zp169 P160_0) hZ (hw _ (List.mem_of_getElem? (i := 66) rfl)) (hw _ (List.mem_of_getElem? (i := 32) rfl)) (by decide) (by decide)) q172a q172c (g := (mkF m 130 #[.val (.int p1), .val (.int p2), .val (.int p3), .val (.int p4), .val (.int (0 : Int32)), .val (.ref b1), .val (.ref b32), .val (.ref b85), .val (.ref b140), .unset, .unset, .unset, .unset] [(.ref b140)])) rfl (by rw [hml]; rfl) (Steps.refl _) (argsL := []) (rest := []) (lenOf pd__40__41_J rfl) rfl (by show 2 * 0 + _ ≤ _; exact Nat.le_of_eq rfl) (hb hby at_130) (fun _ _ => ⟨rfl, rfl, (by decide : (((((((((((0 + 1) + 1) + 1) + 1) + 1) + 1) + 1) + 1) + 1) + 1) + 2) + 0 ≤ _), (by decide : (((((((((((0 + 4) + 1) + 1) + 4) + 2) + 2) + 4) + 1) + 1) + 7) + 45058) + 0 ≤ _)⟩)
    dsimp only [Pt.U, Pt.locs, Pt.cells, Pt.slots] at X172 l172 y172 z172 st172 hQ172
    subst l172 y172 z172
    obtain ⟨rfl, Nq172, e172⟩ := hQ172
    have Np173 := Fr.app Np170 Nq172
    refine Go.via st172 ?_
    show Go p.tables e below s _ _ _ (T172.setTop (mkF m 133 #[.val (.int p1), .val (.int p2), .val (.int p3), .val (.int p4), .val (.int (0 : Int32)), .val (.ref b1), .val (.ref b32), .val (.ref b85), .val (.ref b140), .unset, .unset, .unset, .unset] [(.long (0 : Int64))]))
    refine Go.on (fun t k => XS.lstore X172.here hx rfl (hb hby at_133) rfl (l' := #[.val (.int p1), .val (.int p2), .val (.int p3), .val (.int p4), .val (.int (0 : Int32)), .val (.ref b1), .val (.ref b32), .val (.ref b85), .val (.ref b140), .val (.long (0 : Int64)), .second, .unset, .unset]) rfl k) ?_
    show Go p.tables e below s _ _ _ (T172.setTop (mkF m 135 #[.val (.int p1), .val (.int p2), .val (.int p3), .val (.int p4), .val (.int (0 : Int32)), .val (.ref b1), .val (.ref b32), .val (.ref b85), .val (.ref b140), .val (.long (0 : Int64)), .second, .unset, .unset] []))
    refine Go.on (fun t k => XS.aload X172.here hx rfl (hb hby at_135) rfl rfl k) ?_
    show Go p.tables e below s _ _ _ (T172.setTop (mkF m 137 #[.val (.int p1), .val (.int p2), .val (.int p3), .val (.int p4), .val (.int (0 : Int32)), .val (.ref b1), .val (.ref b32), .val (.ref b85), .val (.ref b140), .val (.long (0 : Int64)), .second, .unset, .unset] [(.ref b140)]))
    obtain ⟨cq174, kq174, q174a, q174b, q174c⟩ := isOf hZ e172 A140_168
    obtain ⟨_, _, ⟨T174, L174, k174, n174⟩, -, X174, ⟨Lc174, hQ174, l174, y174, z174⟩, st174⟩ := X172.virtualBack hx (y := (⟨"com/example/loomport/loomport/loadgen/Tally", "firstError", "()Ljava/lang/String;"⟩ : MethodName)) (z := (⟨"com/example/loomport/loomport/loadgen/Tally", "firstError", "()Ljava/lang/String;"⟩ : MethodName)) hown (mvT hZ (hw _ (List.mem_of_getElem? (i := 69) rfl))) (mvT hZ (hw _ (List.mem_of_getElem? (i := 70) rfl))) (notFace_of_selects (args := #[]) (mvT hZ (hw _ (List.mem_of_getElem? (i := 72) rfl)))) (mvT hZ (hw _ (List.mem_of_getElem? (i := 72) rfl))) (mvT hZ (hw _ (List.mem_of_getElem? (i := 71) rfl))) (by decide) (backOf (W := 0) (rm13n l Z a0 hw [] b140 T160.heap n0 Zp169 P160_1) hZ (hw _ (List.mem_of_getElem? (i := 73) rfl)) (hw _ (List.mem_of_getElem? (i := 32) rfl)) (by decide) (by decide)) q174a q174c (g := (mkF m 137 #[.val (.int p1), .val (.int p2), .val (.int p3), .val (.int p4), .val (.int (0 : Int32)), .val (.ref b1), .val (.ref b32), .val (.ref b85), .val (.ref b140), .val (.long (0 : Int64)), .second, .unset, .unset] [(.ref b140)])) rfl (by rw [hml]; rfl) (Steps.refl _) (argsL := []) (rest := []) (lenOf pd__40__41_Ljava_47_lang_47_String_59_ rfl) rfl (by show 2 * 0 + _ ≤ _; exact Nat.le_of_eq rfl) (hb hby at_137) (fun _ _ => ⟨rfl, e172, (by decide : ((((((((((((0 + 1) + 1) + 1) + 1) + 1) + 1) + 1) + 1) + 1) + 1) + 2) + 0) + 0 ≤ _), (by decide : ((((((((((((0 + 4) + 1) + 1) + 4) + 2) + 2) + 4) + 1) + 1) + 7) + 45058) + 0) + 0 ≤ _)⟩)
    dsimp only [Pt.U, Pt.locs, Pt.cells, Pt.slots] at X174 l174 y174 z174 st174 hQ174
    subst l174 y174 z174
    obtain ⟨rfl, Nq174, e174⟩ := hQ174
    have Np175 := Fr.app Np173 Nq174
    refine Go.via st174 ?_
    show Go p.tables e below s _ _ _ (T174.setTop (mkF m 140 #[.val (.int p1), .val (.int p2), .val (.int p3), .val (.int p4), .val (.int (0 : Int32)), .val (.ref b1), .val (.ref b32), .val (.ref b85), .val (.ref b140), .val (.long (0 : Int64)), .second, .unset, .unset] [.null]))
    refine Go.on (fun t k => XS.astore X174.here hx rfl (hb hby at_140) rfl rfl (l' := #[.val (.int p1), .val (.int p2), .val (.int p3), .val (.int p4), .val (.int (0 : Int32)), .val (.ref b1), .val (.ref b32), .val (.ref b85), .val (.ref b140), .val (.long (0 : Int64)), .second, .val .null, .unset]) rfl k) ?_
    show Go p.tables e below s _ _ _ (T174.setTop (mkF m 142 #[.val (.int p1), .val (.int p2), .val (.int p3), .val (.int p4), .val (.int (0 : Int32)), .val (.ref b1), .val (.ref b32), .val (.ref b85), .val (.ref b140), .val (.long (0 : Int64)), .second, .val .null, .unset] []))
    refine Go.on (fun t k => XS.lload X174.here hx rfl (hb hby at_142) rfl k) ?_
    show Go p.tables e below s _ _ _ (T174.setTop (mkF m 144 #[.val (.int p1), .val (.int p2), .val (.int p3), .val (.int p4), .val (.int (0 : Int32)), .val (.ref b1), .val (.ref b32), .val (.ref b85), .val (.ref b140), .val (.long (0 : Int64)), .second, .val .null, .unset] [(.long (0 : Int64))]))
    refine Go.on (fun t k => XS.iload X174.here hx rfl (hb hby at_144) rfl k) ?_
    show Go p.tables e below s _ _ _ (T174.setTop (mkF m 146 #[.val (.int p1), .val (.int p2), .val (.int p3), .val (.int p4), .val (.int (0 : Int32)), .val (.ref b1), .val (.ref b32), .val (.ref b85), .val (.ref b140), .val (.long (0 : Int64)), .second, .val .null, .unset] [(.int (0 : Int32)), (.long (0 : Int64))]))
    refine Go.on (fun t k => XS.i2l X174.here hx rfl (hb hby at_146) rfl k) ?_
    show Go p.tables e below s _ _ _ (T174.setTop (mkF m 147 #[.val (.int p1), .val (.int p2), .val (.int p3), .val (.int p4), .val (.int (0 : Int32)), .val (.ref b1), .val (.ref b32), .val (.ref b85), .val (.ref b140), .val (.long (0 : Int64)), .second, .val .null, .unset] [(.long ((0 : Int32).toInt64)), (.long (0 : Int64))]))
    refine Go.on (fun t k => XS.lcmp X174.here hx rfl (hb hby at_147) rfl k) ?_
    show Go p.tables e below s _ _ _ (T174.setTop (mkF m 148 #[.val (.int p1), .val (.int p2), .val (.int p3), .val (.int p4), .val (.int (0 : Int32)), .val (.ref b1), .val (.ref b32), .val (.ref b85), .val (.ref b140), .val (.long (0 : Int64)), .second, .val .null, .unset] [(.int (lcmpW (0 : Int64) ((0 : Int32).toInt64)))]))
    refine Go.on (fun t k => XS.ifYes X174.here hx rfl (pc0 := 148) (pc' := 153) rfl (hb hby at_148) rfl ((if0 _ _).trans (teq (by decide : (lcmpW (0 : Int64) ((0 : Int32).toInt64)) = (0 : Int32))).1) (by decide) (by decide) k) ?_
    show Go p.tables e below s _ _ _ (T174.setTop (mkF m 153 #[.val (.int p1), .val (.int p2), .val (.int p3), .val (.int p4), .val (.int (0 : Int32)), .val (.ref b1), .val (.ref b32), .val (.ref b85), .val (.ref b140), .val (.long (0 : Int64)), .second, .val .null, .unset] []))
    refine Go.on (fun t k => XS.iload X174.here hx rfl (hb hby at_153) rfl k) ?_
    show Go p.tables e below s _ _ _ (T174.setTop (mkF m 155 #[.val (.int p1), .val (.int p2), .val (.int p3), .val (.int p4), .val (.int (0 : Int32)), .val (.ref b1), .val (.ref b32), .val (.ref b85), .val (.ref b140), .val (.long (0 : Int64)), .second, .val .null, .unset] [(.int (0 : Int32))]))
    refine Go.on (fun t k => XS.ifNo X174.here hx rfl (hb hby at_155) rfl ((if0 _ _).trans (teq (by decide : (0 : Int32) = (0 : Int32))).2) k) ?_
    show Go p.tables e below s _ _ _ (T174.setTop (mkF m 158 #[.val (.int p1), .val (.int p2), .val (.int p3), .val (.int p4), .val (.int (0 : Int32)), .val (.ref b1), .val (.ref b32), .val (.ref b85), .val (.ref b140), .val (.long (0 : Int64)), .second, .val .null, .unset] []))
    refine Go.on (fun t k => XS.aload X174.here hx rfl (hb hby at_158) rfl rfl k) ?_
    show Go p.tables e below s _ _ _ (T174.setTop (mkF m 160 #[.val (.int p1), .val (.int p2), .val (.int p3), .val (.int p4), .val (.int (0 : Int32)), .val (.ref b1), .val (.ref b32), .val (.ref b85), .val (.ref b140), .val (.long (0 : Int64)), .second, .val .null, .unset] [.null]))
    refine Go.on (fun t k => XS.ifnullYes X174.here hx rfl (pc0 := 160) (pc' := 174) rfl (hb hby at_160) rfl (by decide) (by decide) k) ?_
    show Go p.tables e below s _ _ _ (T174.setTop (mkF m 174 #[.val (.int p1), .val (.int p2), .val (.int p3), .val (.int p4), .val (.int (0 : Int32)), .val (.ref b1), .val (.ref b32), .val (.ref b85), .val (.ref b140), .val (.long (0 : Int64)), .second, .val .null, .unset] []))
    refine Go.on (fun t k => XS.aload X174.here hx rfl (hb hby at_174) rfl rfl k) ?_
    show Go p.tables e below s _ _ _ (T174.setTop (mkF m 176 #[.val (.int p1), .val (.int p2), .val (.int p3), .val (.int p4), .val (.int (0 : Int32)), .val (.ref b1), .val (.ref b32), .val (.ref b85), .val (.ref b140), .val (.long (0 : Int64)), .second, .val .null, .unset] [(.ref b140)]))
    refine Go.on (fun t k => XS.aload X174.here hx rfl (hb hby at_176) rfl rfl k) ?_
    show Go p.tables e below s _ _ _ (T174.setTop (mkF m 178 #[.val (.int p1), .val (.int p2), .val (.int p3), .val (.int p4), .val (.int (0 : Int32)), .val (.ref b1), .val (.ref b32), .val (.ref b85), .val (.ref b140), .val (.long (0 : Int64)), .second, .val .null, .unset] [(.ref b85), (.ref b140)]))
    obtain ⟨cq176, kq176, q176a, q176b, q176c⟩ := isOf hZ e174 A140_168
    obtain ⟨_, _, ⟨T176, L176, k176, n176⟩, -, X176, ⟨Lc176, hQ176, l176, y176, z176⟩, st176⟩ := X174.virtualBack hx (y := (⟨"com/example/loomport/loomport/loadgen/Tally", "error", "(Ljava/lang/String;)V"⟩ : MethodName)) (z := (⟨"com/example/loomport/loomport/loadgen/Tally", "error", "(Ljava/lang/String;)V"⟩ : MethodName)) hown (mvT hZ (hw _ (List.mem_of_getElem? (i := 76) rfl))) (mvT hZ (hw _ (List.mem_of_getElem? (i := 77) rfl))) (notFace_of_selects (args := #[]) (mvT hZ (hw _ (List.mem_of_getElem? (i := 79) rfl)))) (mvT hZ (hw _ (List.mem_of_getElem? (i := 79) rfl))) (mvT hZ (hw _ (List.mem_of_getElem? (i := 78) rfl))) (by decide) (backOf (W := 0) (rm14n l Z a0 hw [] b140 b85 (0 : Int64) T160.heap n0 Zp169 A140_168 ge147 P160_0 P160_1) hZ (hw _ (List.mem_of_getElem? (i := 80) rfl)) (hw _ (List.mem_of_getElem? (i := 32) rfl)) (by decide) (by decide)) q176a q176c (g := (mkF m 178 #[.val (.int p1), .val (.int p2), .val (.int p3), .val (.int p4), .val (.int (0 : Int32)), .val (.ref b1), .val (.ref b32), .val (.ref b85), .val (.ref b140), .val (.long (0 : Int64)), .second, .val .null, .unset] [(.ref b85), (.ref b140)])) rfl (by rw [hml]; rfl) (Steps.refl _) (argsL := [(.ref b85)]) (rest := []) (lenOf pd__40_Ljava_47_lang_47_String_59__41_V rfl) rfl (by show 2 * 0 + _ ≤ _; exact Nat.le_of_eq rfl) (hb hby at_178) (fun _ _ => ⟨rfl, e174, (by decide : (((((((((((((0 + 1) + 1) + 1) + 1) + 1) + 1) + 1) + 1) + 1) + 1) + 2) + 0) + 0) + 0 ≤ _), (by decide : (((((((((((((0 + 4) + 1) + 1) + 4) + 2) + 2) + 4) + 1) + 1) + 7) + 45058) + 0) + 0) + 0 ≤ _)⟩)
    dsimp only [Pt.U, Pt.locs, Pt.cells, Pt.slots] at X176 l176 y176 z176 st176 hQ176
    subst l176 y176 z176
    obtain ⟨rfl, Nq176, Kq176, P176_0, P176_1⟩ := hQ176
    have Old0_177 := Old0_161.keep Kq176 (allS ge147 all0)
    have A1_178 := A1_162.keep Kq176
    have Vb8_179 := Vb8_163.keep Kq176 (ninS ne142 nin0)
    have A32_180 := A32_164.keep Kq176
    have Vb43_181 := Vb43_165.keep Kq176 (ninS ne144 nin0)
    have A85_182 := A85_166.keep Kq176
    have Vb100_183 := Vb100_167.keep Kq176 (ninS ne146 nin0)
    have A140_184 := A140_168.keep Kq176
    have Zp185 := Nat.le_trans Zp169 Kq176.1
    have Np186 := Fr.app Np175 Nq176
    refine Go.via st176 ?_
    show Go p.tables e below s _ _ _ (T176.setTop (mkF m 181 #[.val (.int p1), .val (.int p2), .val (.int p3), .val (.int p4), .val (.int (0 : Int32)), .val (.ref b1), .val (.ref b32), .val (.ref b85), .val (.ref b140), .val (.long (0 : Int64)), .second, .val .null, .unset] []))
    refine Go.on (fun t k => XS.aload X176.here hx rfl (hb hby at_181) rfl rfl k) ?_
    show Go p.tables e below s _ _ _ (T176.setTop (mkF m 183 #[.val (.int p1), .val (.int p2), .val (.int p3), .val (.int p4), .val (.int (0 : Int32)), .val (.ref b1), .val (.ref b32), .val (.ref b85), .val (.ref b140), .val (.long (0 : Int64)), .second, .val .null, .unset] [(.ref b140)]))
    obtain ⟨cq187, kq187, q187a, q187b, q187c⟩ := isOf hZ rfl A140_184
    obtain ⟨_, _, ⟨T187, L187, k187, n187⟩, -, X187, ⟨Lc187, hQ187, l187, y187, z187⟩, st187⟩ := X176.virtualBack hx (y := (⟨"com/example/loomport/loomport/loadgen/Tally", "errors", "()J"⟩ : MethodName)) (z := (⟨"com/example/loomport/loomport/loadgen/Tally", "errors", "()J"⟩ : MethodName)) hown (mvT hZ (hw _ (List.mem_of_getElem? (i := 62) rfl))) (mvT hZ (hw _ (List.mem_of_getElem? (i := 63) rfl))) (notFace_of_selects (args := #[]) (mvT hZ (hw _ (List.mem_of_getElem? (i := 65) rfl)))) (mvT hZ (hw _ (List.mem_of_getElem? (i := 65) rfl))) (mvT hZ (hw _ (List.mem_of_getElem? (i := 64) rfl))) (by decide) (backOf (W := 0) (rm12 l Z a0 hw [] b140 ((0 : Int64) + (1 : Int64)) T176.heap n0 Zp185 P176_0) hZ (hw _ (List.mem_of_getElem? (i := 66) rfl)) (hw _ (List.mem_of_getElem? (i := 32) rfl)) (by decide) (by decide)) q187a q187c (g := (mkF m 183 #[.val (.int p1), .val (.int p2), .val (.int p3), .val (.int p4), .val (.int (0 : Int32)), .val (.ref b1), .val (.ref b32), .val (.ref b85), .val (.ref b140), .val (.long (0 : Int64)), .second, .val .null, .unset] [(.ref b140)])) rfl (by rw [hml]; rfl) (Steps.refl _) (argsL := []) (rest := []) (lenOf pd__40__41_J rfl) rfl (by show 2 * 0 + _ ≤ _; exact Nat.le_of_eq rfl) (hb hby at_183) (fun _ _ => ⟨rfl, rfl, (by decide : ((((((((((((((0 + 1) + 1) + 1) + 1) + 1) + 1) + 1) + 1) + 1) + 1) + 2) + 0) + 0) + 0) + 0 ≤ _), (by decide : ((((((((((((((0 + 4) + 1) + 1) + 4) + 2) + 2) + 4) + 1) + 1) + 7) + 45058) + 0) + 0) + 0) + 0 ≤ _)⟩)
    dsimp only [Pt.U, Pt.locs, Pt.cells, Pt.slots] at X187 l187 y187 z187 st187 hQ187
    subst l187 y187 z187
    obtain ⟨rfl, Nq187, e187⟩ := hQ187
    have Np188 := Fr.app Np186 Nq187
    refine Go.via st187 ?_
    show Go p.tables e below s _ _ _ (T187.setTop (mkF m 186 #[.val (.int p1), .val (.int p2), .val (.int p3), .val (.int p4), .val (.int (0 : Int32)), .val (.ref b1), .val (.ref b32), .val (.ref b85), .val (.ref b140), .val (.long (0 : Int64)), .second, .val .null, .unset] [(.long ((0 : Int64) + (1 : Int64)))]))
    refine Go.on (fun t k => XS.iload X187.here hx rfl (hb hby at_186) rfl k) ?_
    show Go p.tables e below s _ _ _ (T187.setTop (mkF m 188 #[.val (.int p1), .val (.int p2), .val (.int p3), .val (.int p4), .val (.int (0 : Int32)), .val (.ref b1), .val (.ref b32), .val (.ref b85), .val (.ref b140), .val (.long (0 : Int64)), .second, .val .null, .unset] [(.int (0 : Int32)), (.long ((0 : Int64) + (1 : Int64)))]))
    refine Go.on (fun t k => XS.iconst X187.here hx rfl (hb hby at_188) k) ?_
    show Go p.tables e below s _ _ _ (T187.setTop (mkF m 189 #[.val (.int p1), .val (.int p2), .val (.int p3), .val (.int p4), .val (.int (0 : Int32)), .val (.ref b1), .val (.ref b32), .val (.ref b85), .val (.ref b140), .val (.long (0 : Int64)), .second, .val .null, .unset] [(.int (1 : Int32)), (.int (0 : Int32)), (.long ((0 : Int64) + (1 : Int64)))]))
    refine Go.on (fun t k => XS.iadd X187.here hx rfl (hb hby at_189) rfl k) ?_
    show Go p.tables e below s _ _ _ (T187.setTop (mkF m 190 #[.val (.int p1), .val (.int p2), .val (.int p3), .val (.int p4), .val (.int (0 : Int32)), .val (.ref b1), .val (.ref b32), .val (.ref b85), .val (.ref b140), .val (.long (0 : Int64)), .second, .val .null, .unset] [(.int (1 : Int32)), (.long ((0 : Int64) + (1 : Int64)))]))
    refine Go.on (fun t k => XS.i2l X187.here hx rfl (hb hby at_190) rfl k) ?_
    show Go p.tables e below s _ _ _ (T187.setTop (mkF m 191 #[.val (.int p1), .val (.int p2), .val (.int p3), .val (.int p4), .val (.int (0 : Int32)), .val (.ref b1), .val (.ref b32), .val (.ref b85), .val (.ref b140), .val (.long (0 : Int64)), .second, .val .null, .unset] [(.long ((1 : Int32).toInt64)), (.long ((0 : Int64) + (1 : Int64)))]))
    refine Go.on (fun t k => XS.lcmp X187.here hx rfl (hb hby at_191) rfl k) ?_
    show Go p.tables e below s _ _ _ (T187.setTop (mkF m 192 #[.val (.int p1), .val (.int p2), .val (.int p3), .val (.int p4), .val (.int (0 : Int32)), .val (.ref b1), .val (.ref b32), .val (.ref b85), .val (.ref b140), .val (.long (0 : Int64)), .second, .val .null, .unset] [(.int (lcmpW ((0 : Int64) + (1 : Int64)) ((1 : Int32).toInt64)))]))
    refine Go.on (fun t k => XS.ifYes X187.here hx rfl (pc0 := 192) (pc' := 197) rfl (hb hby at_192) rfl ((if0 _ _).trans (teq (by decide : (lcmpW ((0 : Int64) + (1 : Int64)) ((1 : Int32).toInt64)) = (0 : Int32))).1) (by decide) (by decide) k) ?_
    show Go p.tables e below s _ _ _ (T187.setTop (mkF m 197 #[.val (.int p1), .val (.int p2), .val (.int p3), .val (.int p4), .val (.int (0 : Int32)), .val (.ref b1), .val (.ref b32), .val (.ref b85), .val (.ref b140), .val (.long (0 : Int64)), .second, .val .null, .unset] []))
    refine Go.on (fun t k => XS.iload X187.here hx rfl (hb hby at_197) rfl k) ?_
    show Go p.tables e below s _ _ _ (T187.setTop (mkF m 199 #[.val (.int p1), .val (.int p2), .val (.int p3), .val (.int p4), .val (.int (0 : Int32)), .val (.ref b1), .val (.ref b32), .val (.ref b85), .val (.ref b140), .val (.long (0 : Int64)), .second, .val .null, .unset] [(.int (0 : Int32))]))
    refine Go.on (fun t k => XS.ifNo X187.here hx rfl (hb hby at_199) rfl ((if0 _ _).trans (teq (by decide : (0 : Int32) = (0 : Int32))).2) k) ?_
    show Go p.tables e below s _ _ _ (T187.setTop (mkF m 202 #[.val (.int p1), .val (.int p2), .val (.int p3), .val (.int p4), .val (.int (0 : Int32)), .val (.ref b1), .val (.ref b32), .val (.ref b85), .val (.ref b140), .val (.long (0 : Int64)), .second, .val .null, .unset] []))
    refine Go.on (fun t k => XS.aload X187.here hx rfl (hb hby at_202) rfl rfl k) ?_
    show Go p.tables e below s _ _ _ (T187.setTop (mkF m 204 #[.val (.int p1), .val (.int p2), .val (.int p3), .val (.int p4), .val (.int (0 : Int32)), .val (.ref b1), .val (.ref b32), .val (.ref b85), .val (.ref b140), .val (.long (0 : Int64)), .second, .val .null, .unset] [(.ref b85)]))
    refine Go.on (fun t k => XS.goto X187.here hx rfl (pc0 := 204) (pc' := 209) rfl (hb hby at_204) (by decide) (by decide) k) ?_
    show Go p.tables e below s _ _ _ (T187.setTop (mkF m 209 #[.val (.int p1), .val (.int p2), .val (.int p3), .val (.int p4), .val (.int (0 : Int32)), .val (.ref b1), .val (.ref b32), .val (.ref b85), .val (.ref b140), .val (.long (0 : Int64)), .second, .val .null, .unset] [(.ref b85)]))
    refine Go.on (fun t k => XS.astore X187.here hx rfl (hb hby at_209) rfl rfl (l' := #[.val (.int p1), .val (.int p2), .val (.int p3), .val (.int p4), .val (.int (0 : Int32)), .val (.ref b1), .val (.ref b32), .val (.ref b85), .val (.ref b140), .val (.long (0 : Int64)), .second, .val .null, .val (.ref b85)]) rfl k) ?_
    show Go p.tables e below s _ _ _ (T187.setTop (mkF m 211 #[.val (.int p1), .val (.int p2), .val (.int p3), .val (.int p4), .val (.int (0 : Int32)), .val (.ref b1), .val (.ref b32), .val (.ref b85), .val (.ref b140), .val (.long (0 : Int64)), .second, .val .null, .val (.ref b85)] []))
    refine Go.on (fun t k => XS.aload X187.here hx rfl (hb hby at_211) rfl rfl k) ?_
    show Go p.tables e below s _ _ _ (T187.setTop (mkF m 213 #[.val (.int p1), .val (.int p2), .val (.int p3), .val (.int p4), .val (.int (0 : Int32)), .val (.ref b1), .val (.ref b32), .val (.ref b85), .val (.ref b140), .val (.long (0 : Int64)), .second, .val .null, .val (.ref b85)] [(.ref b140)]))
    obtain ⟨cq189, kq189, q189a, q189b, q189c⟩ := isOf hZ e187 A140_184
    obtain ⟨_, _, ⟨T189, L189, k189, n189⟩, -, X189, ⟨Lc189, hQ189, l189, y189, z189⟩, st189⟩ := X187.virtualBack hx (y := (⟨"com/example/loomport/loomport/loadgen/Tally", "firstError", "()Ljava/lang/String;"⟩ : MethodName)) (z := (⟨"com/example/loomport/loomport/loadgen/Tally", "firstError", "()Ljava/lang/String;"⟩ : MethodName)) hown (mvT hZ (hw _ (List.mem_of_getElem? (i := 69) rfl))) (mvT hZ (hw _ (List.mem_of_getElem? (i := 70) rfl))) (notFace_of_selects (args := #[]) (mvT hZ (hw _ (List.mem_of_getElem? (i := 72) rfl)))) (mvT hZ (hw _ (List.mem_of_getElem? (i := 72) rfl))) (mvT hZ (hw _ (List.mem_of_getElem? (i := 71) rfl))) (by decide) (backOf (W := 0) (rm13s l Z a0 hw [] b140 b85 T176.heap n0 Zp185 P176_1) hZ (hw _ (List.mem_of_getElem? (i := 73) rfl)) (hw _ (List.mem_of_getElem? (i := 32) rfl)) (by decide) (by decide)) q189a q189c (g := (mkF m 213 #[.val (.int p1), .val (.int p2), .val (.int p3), .val (.int p4), .val (.int (0 : Int32)), .val (.ref b1), .val (.ref b32), .val (.ref b85), .val (.ref b140), .val (.long (0 : Int64)), .second, .val .null, .val (.ref b85)] [(.ref b140)])) rfl (by rw [hml]; rfl) (Steps.refl _) (argsL := []) (rest := []) (lenOf pd__40__41_Ljava_47_lang_47_String_59_ rfl) rfl (by show 2 * 0 + _ ≤ _; exact Nat.le_of_eq rfl) (hb hby at_213) (fun _ _ => ⟨rfl, e187, (by decide : (((((((((((((((0 + 1) + 1) + 1) + 1) + 1) + 1) + 1) + 1) + 1) + 1) + 2) + 0) + 0) + 0) + 0) + 0 ≤ _), (by decide : (((((((((((((((0 + 4) + 1) + 1) + 4) + 2) + 2) + 4) + 1) + 1) + 7) + 45058) + 0) + 0) + 0) + 0) + 0 ≤ _)⟩)
    dsimp only [Pt.U, Pt.locs, Pt.cells, Pt.slots] at X189 l189 y189 z189 st189 hQ189
    subst l189 y189 z189
    obtain ⟨rfl, Nq189, e189⟩ := hQ189
    have Np190 := Fr.app Np188 Nq189
    refine Go.via st189 ?_
    show Go p.tables e below s _ _ _ (T189.setTop (mkF m 216 #[.val (.int p1), .val (.int p2), .val (.int p3), .val (.int p4), .val (.int (0 : Int32)), .val (.ref b1), .val (.ref b32), .val (.ref b85), .val (.ref b140), .val (.long (0 : Int64)), .second, .val .null, .val (.ref b85)] [(.ref b85)]))
    refine Go.on (fun t k => XS.aload X189.here hx rfl (hb hby at_216) rfl rfl k) ?_
    show Go p.tables e below s _ _ _ (T189.setTop (mkF m 218 #[.val (.int p1), .val (.int p2), .val (.int p3), .val (.int p4), .val (.int (0 : Int32)), .val (.ref b1), .val (.ref b32), .val (.ref b85), .val (.ref b140), .val (.long (0 : Int64)), .second, .val .null, .val (.ref b85)] [(.ref b85), (.ref b85)]))
    refine Go.on (fun t k => Jvm.RoadKit.acmp (g := (mkF m 218 #[.val (.int p1), .val (.int p2), .val (.int p3), .val (.int p4), .val (.int (0 : Int32)), .val (.ref b1), .val (.ref b32), .val (.ref b85), .val (.ref b140), .val (.long (0 : Int64)), .second, .val .null, .val (.ref b85)] [(.ref b85), (.ref b85)])) X189 hx rfl rfl rfl (pc0 := 218) (pc' := 221) (same := true) rfl (hb hby at_218) rfl (decide_eq_true rfl) (by decide) (by decide) k) ?_
    show Go p.tables e below s _ _ _ (T189.setTop (mkF m 221 #[.val (.int p1), .val (.int p2), .val (.int p3), .val (.int p4), .val (.int (0 : Int32)), .val (.ref b1), .val (.ref b32), .val (.ref b85), .val (.ref b140), .val (.long (0 : Int64)), .second, .val .null, .val (.ref b85)] []))
    refine Go.on (fun t k => XS.iconst X189.here hx rfl (hb hby at_221) k) ?_
    show Go p.tables e below s _ _ _ (T189.setTop (mkF m 222 #[.val (.int p1), .val (.int p2), .val (.int p3), .val (.int p4), .val (.int (0 : Int32)), .val (.ref b1), .val (.ref b32), .val (.ref b85), .val (.ref b140), .val (.long (0 : Int64)), .second, .val .null, .val (.ref b85)] [(.int (1 : Int32))]))
    refine Go.on (fun t k => XS.goto X189.here hx rfl (pc0 := 222) (pc' := 226) rfl (hb hby at_222) (by decide) (by decide) k) ?_
    show Go p.tables e below s _ _ _ (T189.setTop (mkF m 226 #[.val (.int p1), .val (.int p2), .val (.int p3), .val (.int p4), .val (.int (0 : Int32)), .val (.ref b1), .val (.ref b32), .val (.ref b85), .val (.ref b140), .val (.long (0 : Int64)), .second, .val .null, .val (.ref b85)] [(.int (1 : Int32))]))
    refine Go.retN X189 hx hlk (t := .boolean) Bd.returns (by simp) (hb hby at_226) (by decide) (by decide) e189 ?_
    exact ⟨rfl, Np190⟩
  · rw [hk]
    show Go p.tables e below s _ _ _ (T160.setTop (mkF m 89 #[.val (.int p1), .val (.int p2), .val (.int p3), .val (.int p4), .val (.int (1 : Int32)), .val (.ref b1), .val (.ref b32), .val (.ref b85), .val (.ref b140), .unset, .unset, .unset, .unset] []))
    refine Go.on (fun t k => XS.iload X160.here hx rfl (hb hby at_89) rfl k) ?_
    show Go p.tables e below s _ _ _ (T160.setTop (mkF m 91 #[.val (.int p1), .val (.int p2), .val (.int p3), .val (.int p4), .val (.int (1 : Int32)), .val (.ref b1), .val (.ref b32), .val (.ref b85), .val (.ref b140), .unset, .unset, .unset, .unset] [(.int (1 : Int32))]))
    refine Go.on (fun t k => XS.iconst X160.here hx rfl (hb hby at_91) k) ?_
    show Go p.tables e below s _ _ _ (T160.setTop (mkF m 92 #[.val (.int p1), .val (.int p2), .val (.int p3), .val (.int p4), .val (.int (1 : Int32)), .val (.ref b1), .val (.ref b32), .val (.ref b85), .val (.ref b140), .unset, .unset, .unset, .unset] [(.int (1 : Int32)), (.int (1 : Int32))]))
    refine Go.on (fun t k => XS.icmpNo X160.here hx rfl (hb hby at_92) rfl (flt (by decide : ¬ ((1 : Int32) < (1 : Int32)))).1 k) ?_
    show Go p.tables e below s _ _ _ (T160.setTop (mkF m 95 #[.val (.int p1), .val (.int p2), .val (.int p3), .val (.int p4), .val (.int (1 : Int32)), .val (.ref b1), .val (.ref b32), .val (.ref b85), .val (.ref b140), .unset, .unset, .unset, .unset] []))
    refine Go.on (fun t k => XS.aload X160.here hx rfl (hb hby at_95) rfl rfl k) ?_
    show Go p.tables e below s _ _ _ (T160.setTop (mkF m 97 #[.val (.int p1), .val (.int p2), .val (.int p3), .val (.int p4), .val (.int (1 : Int32)), .val (.ref b1), .val (.ref b32), .val (.ref b85), .val (.ref b140), .unset, .unset, .unset, .unset] [(.ref b140)]))
    refine Go.on (fun t k => XS.aload X160.here hx rfl (hb hby at_97) rfl rfl k) ?_
    show Go p.tables e below s _ _ _ (T160.setTop (mkF m 99 #[.val (.int p1), .val (.int p2), .val (.int p3), .val (.int p4), .val (.int (1 : Int32)), .val (.ref b1), .val (.ref b32), .val (.ref b85), .val (.ref b140), .unset, .unset, .unset, .unset] [(.ref b1), (.ref b140)]))
    obtain ⟨cq191, kq191, q191a, q191b, q191c⟩ := isOf hZ rfl A140_168
    obtain ⟨_, _, ⟨T191, L191, k191, n191⟩, -, X191, ⟨Lc191, hQ191, l191, y191, z191⟩, st191⟩ := X160.virtualBack hx (y := (⟨"com/example/loomport/loomport/loadgen/Tally", "error", "(Ljava/lang/String;)V"⟩ : MethodName)) (z := (⟨"com/example/loomport/loomport/loadgen/Tally", "error", "(Ljava/lang/String;)V"⟩ : MethodName)) hown (mvT hZ (hw _ (List.mem_of_getElem? (i := 76) rfl))) (mvT hZ (hw _ (List.mem_of_getElem? (i := 77) rfl))) (notFace_of_selects (args := #[]) (mvT hZ (hw _ (List.mem_of_getElem? (i := 79) rfl)))) (mvT hZ (hw _ (List.mem_of_getElem? (i := 79) rfl))) (mvT hZ (hw _ (List.mem_of_getElem? (i := 78) rfl))) (by decide) (backOf (W := 0) (rm14n l Z a0 hw [] b140 b1 (0 : Int64) T160.heap n0 Zp169 A140_168 ge147 P160_0 P160_1) hZ (hw _ (List.mem_of_getElem? (i := 80) rfl)) (hw _ (List.mem_of_getElem? (i := 32) rfl)) (by decide) (by decide)) q191a q191c (g := (mkF m 99 #[.val (.int p1), .val (.int p2), .val (.int p3), .val (.int p4), .val (.int (1 : Int32)), .val (.ref b1), .val (.ref b32), .val (.ref b85), .val (.ref b140), .unset, .unset, .unset, .unset] [(.ref b1), (.ref b140)])) rfl (by rw [hml]; rfl) (Steps.refl _) (argsL := [(.ref b1)]) (rest := []) (lenOf pd__40_Ljava_47_lang_47_String_59__41_V rfl) rfl (by show 2 * 0 + _ ≤ _; exact Nat.le_of_eq rfl) (hb hby at_99) (fun _ _ => ⟨rfl, rfl, (by decide : (((((((((((0 + 1) + 1) + 1) + 1) + 1) + 1) + 1) + 1) + 1) + 1) + 2) + 0 ≤ _), (by decide : (((((((((((0 + 4) + 1) + 1) + 4) + 2) + 2) + 4) + 1) + 1) + 7) + 45058) + 0 ≤ _)⟩)
    dsimp only [Pt.U, Pt.locs, Pt.cells, Pt.slots] at X191 l191 y191 z191 st191 hQ191
    subst l191 y191 z191
    obtain ⟨rfl, Nq191, Kq191, P191_0, P191_1⟩ := hQ191
    have Old0_192 := Old0_161.keep Kq191 (allS ge147 all0)
    have A1_193 := A1_162.keep Kq191
    have Vb8_194 := Vb8_163.keep Kq191 (ninS ne142 nin0)
    have A32_195 := A32_164.keep Kq191
    have Vb43_196 := Vb43_165.keep Kq191 (ninS ne144 nin0)
    have A85_197 := A85_166.keep Kq191
    have Vb100_198 := Vb100_167.keep Kq191 (ninS ne146 nin0)
    have A140_199 := A140_168.keep Kq191
    have Zp200 := Nat.le_trans Zp169 Kq191.1
    have Np201 := Fr.app Np170 Nq191
    refine Go.via st191 ?_
    show Go p.tables e below s _ _ _ (T191.setTop (mkF m 102 #[.val (.int p1), .val (.int p2), .val (.int p3), .val (.int p4), .val (.int (1 : Int32)), .val (.ref b1), .val (.ref b32), .val (.ref b85), .val (.ref b140), .unset, .unset, .unset, .unset] []))
    refine Go.on (fun t k => XS.iload X191.here hx rfl (hb hby at_102) rfl k) ?_
    show Go p.tables e below s _ _ _ (T191.setTop (mkF m 104 #[.val (.int p1), .val (.int p2), .val (.int p3), .val (.int p4), .val (.int (1 : Int32)), .val (.ref b1), .val (.ref b32), .val (.ref b85), .val (.ref b140), .unset, .unset, .unset, .unset] [(.int (1 : Int32))]))
    refine Go.on (fun t k => XS.iconst X191.here hx rfl (hb hby at_104) k) ?_
    show Go p.tables e below s _ _ _ (T191.setTop (mkF m 105 #[.val (.int p1), .val (.int p2), .val (.int p3), .val (.int p4), .val (.int (1 : Int32)), .val (.ref b1), .val (.ref b32), .val (.ref b85), .val (.ref b140), .unset, .unset, .unset, .unset] [(.int (2 : Int32)), (.int (1 : Int32))]))
    refine Go.on (fun t k => XS.icmpYes X191.here hx rfl (pc0 := 105) (pc' := 115) rfl (hb hby at_105) rfl (tlt (by decide : (1 : Int32) < (2 : Int32))).1 (by decide) (by decide) k) ?_
    show Go p.tables e below s _ _ _ (T191.setTop (mkF m 115 #[.val (.int p1), .val (.int p2), .val (.int p3), .val (.int p4), .val (.int (1 : Int32)), .val (.ref b1), .val (.ref b32), .val (.ref b85), .val (.ref b140), .unset, .unset, .unset, .unset] []))
    refine Go.on (fun t k => XS.iload X191.here hx rfl (hb hby at_115) rfl k) ?_
    show Go p.tables e below s _ _ _ (T191.setTop (mkF m 117 #[.val (.int p1), .val (.int p2), .val (.int p3), .val (.int p4), .val (.int (1 : Int32)), .val (.ref b1), .val (.ref b32), .val (.ref b85), .val (.ref b140), .unset, .unset, .unset, .unset] [(.int (1 : Int32))]))
    refine Go.on (fun t k => XS.iconst X191.here hx rfl (hb hby at_117) k) ?_
    show Go p.tables e below s _ _ _ (T191.setTop (mkF m 118 #[.val (.int p1), .val (.int p2), .val (.int p3), .val (.int p4), .val (.int (1 : Int32)), .val (.ref b1), .val (.ref b32), .val (.ref b85), .val (.ref b140), .unset, .unset, .unset, .unset] [(.int (3 : Int32)), (.int (1 : Int32))]))
    refine Go.on (fun t k => XS.icmpYes X191.here hx rfl (pc0 := 118) (pc' := 128) rfl (hb hby at_118) rfl (tlt (by decide : (1 : Int32) < (3 : Int32))).1 (by decide) (by decide) k) ?_
    show Go p.tables e below s _ _ _ (T191.setTop (mkF m 128 #[.val (.int p1), .val (.int p2), .val (.int p3), .val (.int p4), .val (.int (1 : Int32)), .val (.ref b1), .val (.ref b32), .val (.ref b85), .val (.ref b140), .unset, .unset, .unset, .unset] []))
    refine Go.on (fun t k => XS.aload X191.here hx rfl (hb hby at_128) rfl rfl k) ?_
    show Go p.tables e below s _ _ _ (T191.setTop (mkF m 130 #[.val (.int p1), .val (.int p2), .val (.int p3), .val (.int p4), .val (.int (1 : Int32)), .val (.ref b1), .val (.ref b32), .val (.ref b85), .val (.ref b140), .unset, .unset, .unset, .unset] [(.ref b140)]))
    obtain ⟨cq202, kq202, q202a, q202b, q202c⟩ := isOf hZ rfl A140_199
    obtain ⟨_, _, ⟨T202, L202, k202, n202⟩, -, X202, ⟨Lc202, hQ202, l202, y202, z202⟩, st202⟩ := X191.virtualBack hx (y := (⟨"com/example/loomport/loomport/loadgen/Tally", "errors", "()J"⟩ : MethodName)) (z := (⟨"com/example/loomport/loomport/loadgen/Tally", "errors", "()J"⟩ : MethodName)) hown (mvT hZ (hw _ (List.mem_of_getElem? (i := 62) rfl))) (mvT hZ (hw _ (List.mem_of_getElem? (i := 63) rfl))) (notFace_of_selects (args := #[]) (mvT hZ (hw _ (List.mem_of_getElem? (i := 65) rfl)))) (mvT hZ (hw _ (List.mem_of_getElem? (i := 65) rfl))) (mvT hZ (hw _ (List.mem_of_getElem? (i := 64) rfl))) (by decide) (backOf (W := 0) (rm12 l Z a0 hw [] b140 ((0 : Int64) + (1 : Int64)) T191.heap n0 Zp200 P191_0) hZ (hw _ (List.mem_of_getElem? (i := 66) rfl)) (hw _ (List.mem_of_getElem? (i := 32) rfl)) (by decide) (by decide)) q202a q202c (g := (mkF m 130 #[.val (.int p1), .val (.int p2), .val (.int p3), .val (.int p4), .val (.int (1 : Int32)), .val (.ref b1), .val (.ref b32), .val (.ref b85), .val (.ref b140), .unset, .unset, .unset, .unset] [(.ref b140)])) rfl (by rw [hml]; rfl) (Steps.refl _) (argsL := []) (rest := []) (lenOf pd__40__41_J rfl) rfl (by show 2 * 0 + _ ≤ _; exact Nat.le_of_eq rfl) (hb hby at_130) (fun _ _ => ⟨rfl, rfl, (by decide : ((((((((((((0 + 1) + 1) + 1) + 1) + 1) + 1) + 1) + 1) + 1) + 1) + 2) + 0) + 0 ≤ _), (by decide : ((((((((((((0 + 4) + 1) + 1) + 4) + 2) + 2) + 4) + 1) + 1) + 7) + 45058) + 0) + 0 ≤ _)⟩)
    dsimp only [Pt.U, Pt.locs, Pt.cells, Pt.slots] at X202 l202 y202 z202 st202 hQ202
    subst l202 y202 z202
    obtain ⟨rfl, Nq202, e202⟩ := hQ202
    have Np203 := Fr.app Np201 Nq202
    refine Go.via st202 ?_
    show Go p.tables e below s _ _ _ (T202.setTop (mkF m 133 #[.val (.int p1), .val (.int p2), .val (.int p3), .val (.int p4), .val (.int (1 : Int32)), .val (.ref b1), .val (.ref b32), .val (.ref b85), .val (.ref b140), .unset, .unset, .unset, .unset] [(.long ((0 : Int64) + (1 : Int64)))]))
    refine Go.on (fun t k => XS.lstore X202.here hx rfl (hb hby at_133) rfl (l' := #[.val (.int p1), .val (.int p2), .val (.int p3), .val (.int p4), .val (.int (1 : Int32)), .val (.ref b1), .val (.ref b32), .val (.ref b85), .val (.ref b140), .val (.long ((0 : Int64) + (1 : Int64))), .second, .unset, .unset]) rfl k) ?_
    show Go p.tables e below s _ _ _ (T202.setTop (mkF m 135 #[.val (.int p1), .val (.int p2), .val (.int p3), .val (.int p4), .val (.int (1 : Int32)), .val (.ref b1), .val (.ref b32), .val (.ref b85), .val (.ref b140), .val (.long ((0 : Int64) + (1 : Int64))), .second, .unset, .unset] []))
    refine Go.on (fun t k => XS.aload X202.here hx rfl (hb hby at_135) rfl rfl k) ?_
    show Go p.tables e below s _ _ _ (T202.setTop (mkF m 137 #[.val (.int p1), .val (.int p2), .val (.int p3), .val (.int p4), .val (.int (1 : Int32)), .val (.ref b1), .val (.ref b32), .val (.ref b85), .val (.ref b140), .val (.long ((0 : Int64) + (1 : Int64))), .second, .unset, .unset] [(.ref b140)]))
    obtain ⟨cq204, kq204, q204a, q204b, q204c⟩ := isOf hZ e202 A140_199
    obtain ⟨_, _, ⟨T204, L204, k204, n204⟩, -, X204, ⟨Lc204, hQ204, l204, y204, z204⟩, st204⟩ := X202.virtualBack hx (y := (⟨"com/example/loomport/loomport/loadgen/Tally", "firstError", "()Ljava/lang/String;"⟩ : MethodName)) (z := (⟨"com/example/loomport/loomport/loadgen/Tally", "firstError", "()Ljava/lang/String;"⟩ : MethodName)) hown (mvT hZ (hw _ (List.mem_of_getElem? (i := 69) rfl))) (mvT hZ (hw _ (List.mem_of_getElem? (i := 70) rfl))) (notFace_of_selects (args := #[]) (mvT hZ (hw _ (List.mem_of_getElem? (i := 72) rfl)))) (mvT hZ (hw _ (List.mem_of_getElem? (i := 72) rfl))) (mvT hZ (hw _ (List.mem_of_getElem? (i := 71) rfl))) (by decide) (backOf (W := 0) (rm13s l Z a0 hw [] b140 b1 T191.heap n0 Zp200 P191_1) hZ (hw _ (List.mem_of_getElem? (i := 73) rfl)) (hw _ (List.mem_of_getElem? (i := 32) rfl)) (by decide) (by decide)) q204a q204c (g := (mkF m 137 #[.val (.int p1), .val (.int p2), .val (.int p3), .val (.int p4), .val (.int (1 : Int32)), .val (.ref b1), .val (.ref b32), .val (.ref b85), .val (.ref b140), .val (.long ((0 : Int64) + (1 : Int64))), .second, .unset, .unset] [(.ref b140)])) rfl (by rw [hml]; rfl) (Steps.refl _) (argsL := []) (rest := []) (lenOf pd__40__41_Ljava_47_lang_47_String_59_ rfl) rfl (by show 2 * 0 + _ ≤ _; exact Nat.le_of_eq rfl) (hb hby at_137) (fun _ _ => ⟨rfl, e202, (by decide : (((((((((((((0 + 1) + 1) + 1) + 1) + 1) + 1) + 1) + 1) + 1) + 1) + 2) + 0) + 0) + 0 ≤ _), (by decide : (((((((((((((0 + 4) + 1) + 1) + 4) + 2) + 2) + 4) + 1) + 1) + 7) + 45058) + 0) + 0) + 0 ≤ _)⟩)
    dsimp only [Pt.U, Pt.locs, Pt.cells, Pt.slots] at X204 l204 y204 z204 st204 hQ204
    subst l204 y204 z204
    obtain ⟨rfl, Nq204, e204⟩ := hQ204
    have Np205 := Fr.app Np203 Nq204
    refine Go.via st204 ?_
    show Go p.tables e below s _ _ _ (T204.setTop (mkF m 140 #[.val (.int p1), .val (.int p2), .val (.int p3), .val (.int p4), .val (.int (1 : Int32)), .val (.ref b1), .val (.ref b32), .val (.ref b85), .val (.ref b140), .val (.long ((0 : Int64) + (1 : Int64))), .second, .unset, .unset] [(.ref b1)]))
    refine Go.on (fun t k => XS.astore X204.here hx rfl (hb hby at_140) rfl rfl (l' := #[.val (.int p1), .val (.int p2), .val (.int p3), .val (.int p4), .val (.int (1 : Int32)), .val (.ref b1), .val (.ref b32), .val (.ref b85), .val (.ref b140), .val (.long ((0 : Int64) + (1 : Int64))), .second, .val (.ref b1), .unset]) rfl k) ?_
    show Go p.tables e below s _ _ _ (T204.setTop (mkF m 142 #[.val (.int p1), .val (.int p2), .val (.int p3), .val (.int p4), .val (.int (1 : Int32)), .val (.ref b1), .val (.ref b32), .val (.ref b85), .val (.ref b140), .val (.long ((0 : Int64) + (1 : Int64))), .second, .val (.ref b1), .unset] []))
    refine Go.on (fun t k => XS.lload X204.here hx rfl (hb hby at_142) rfl k) ?_
    show Go p.tables e below s _ _ _ (T204.setTop (mkF m 144 #[.val (.int p1), .val (.int p2), .val (.int p3), .val (.int p4), .val (.int (1 : Int32)), .val (.ref b1), .val (.ref b32), .val (.ref b85), .val (.ref b140), .val (.long ((0 : Int64) + (1 : Int64))), .second, .val (.ref b1), .unset] [(.long ((0 : Int64) + (1 : Int64)))]))
    refine Go.on (fun t k => XS.iload X204.here hx rfl (hb hby at_144) rfl k) ?_
    show Go p.tables e below s _ _ _ (T204.setTop (mkF m 146 #[.val (.int p1), .val (.int p2), .val (.int p3), .val (.int p4), .val (.int (1 : Int32)), .val (.ref b1), .val (.ref b32), .val (.ref b85), .val (.ref b140), .val (.long ((0 : Int64) + (1 : Int64))), .second, .val (.ref b1), .unset] [(.int (1 : Int32)), (.long ((0 : Int64) + (1 : Int64)))]))
    refine Go.on (fun t k => XS.i2l X204.here hx rfl (hb hby at_146) rfl k) ?_
    show Go p.tables e below s _ _ _ (T204.setTop (mkF m 147 #[.val (.int p1), .val (.int p2), .val (.int p3), .val (.int p4), .val (.int (1 : Int32)), .val (.ref b1), .val (.ref b32), .val (.ref b85), .val (.ref b140), .val (.long ((0 : Int64) + (1 : Int64))), .second, .val (.ref b1), .unset] [(.long ((1 : Int32).toInt64)), (.long ((0 : Int64) + (1 : Int64)))]))
    refine Go.on (fun t k => XS.lcmp X204.here hx rfl (hb hby at_147) rfl k) ?_
    show Go p.tables e below s _ _ _ (T204.setTop (mkF m 148 #[.val (.int p1), .val (.int p2), .val (.int p3), .val (.int p4), .val (.int (1 : Int32)), .val (.ref b1), .val (.ref b32), .val (.ref b85), .val (.ref b140), .val (.long ((0 : Int64) + (1 : Int64))), .second, .val (.ref b1), .unset] [(.int (lcmpW ((0 : Int64) + (1 : Int64)) ((1 : Int32).toInt64)))]))
    refine Go.on (fun t k => XS.ifYes X204.here hx rfl (pc0 := 148) (pc' := 153) rfl (hb hby at_148) rfl ((if0 _ _).trans (teq (by decide : (lcmpW ((0 : Int64) + (1 : Int64)) ((1 : Int32).toInt64)) = (0 : Int32))).1) (by decide) (by decide) k) ?_
    show Go p.tables e below s _ _ _ (T204.setTop (mkF m 153 #[.val (.int p1), .val (.int p2), .val (.int p3), .val (.int p4), .val (.int (1 : Int32)), .val (.ref b1), .val (.ref b32), .val (.ref b85), .val (.ref b140), .val (.long ((0 : Int64) + (1 : Int64))), .second, .val (.ref b1), .unset] []))
    refine Go.on (fun t k => XS.iload X204.here hx rfl (hb hby at_153) rfl k) ?_
    show Go p.tables e below s _ _ _ (T204.setTop (mkF m 155 #[.val (.int p1), .val (.int p2), .val (.int p3), .val (.int p4), .val (.int (1 : Int32)), .val (.ref b1), .val (.ref b32), .val (.ref b85), .val (.ref b140), .val (.long ((0 : Int64) + (1 : Int64))), .second, .val (.ref b1), .unset] [(.int (1 : Int32))]))
    refine Go.on (fun t k => XS.ifYes X204.here hx rfl (pc0 := 155) (pc' := 165) rfl (hb hby at_155) rfl ((if0 _ _).trans (feq (by decide : ¬ ((1 : Int32) = (0 : Int32)))).2) (by decide) (by decide) k) ?_
    show Go p.tables e below s _ _ _ (T204.setTop (mkF m 165 #[.val (.int p1), .val (.int p2), .val (.int p3), .val (.int p4), .val (.int (1 : Int32)), .val (.ref b1), .val (.ref b32), .val (.ref b85), .val (.ref b140), .val (.long ((0 : Int64) + (1 : Int64))), .second, .val (.ref b1), .unset] []))
    refine Go.on (fun t k => XS.aload X204.here hx rfl (hb hby at_165) rfl rfl k) ?_
    show Go p.tables e below s _ _ _ (T204.setTop (mkF m 167 #[.val (.int p1), .val (.int p2), .val (.int p3), .val (.int p4), .val (.int (1 : Int32)), .val (.ref b1), .val (.ref b32), .val (.ref b85), .val (.ref b140), .val (.long ((0 : Int64) + (1 : Int64))), .second, .val (.ref b1), .unset] [(.ref b1)]))
    refine Go.on (fun t k => XS.aload X204.here hx rfl (hb hby at_167) rfl rfl k) ?_
    show Go p.tables e below s _ _ _ (T204.setTop (mkF m 169 #[.val (.int p1), .val (.int p2), .val (.int p3), .val (.int p4), .val (.int (1 : Int32)), .val (.ref b1), .val (.ref b32), .val (.ref b85), .val (.ref b140), .val (.long ((0 : Int64) + (1 : Int64))), .second, .val (.ref b1), .unset] [(.ref b1), (.ref b1)]))
    refine Go.on (fun t k => Jvm.RoadKit.acmp (g := (mkF m 169 #[.val (.int p1), .val (.int p2), .val (.int p3), .val (.int p4), .val (.int (1 : Int32)), .val (.ref b1), .val (.ref b32), .val (.ref b85), .val (.ref b140), .val (.long ((0 : Int64) + (1 : Int64))), .second, .val (.ref b1), .unset] [(.ref b1), (.ref b1)])) X204 hx rfl rfl rfl (pc0 := 169) (pc' := 174) (same := true) rfl (hb hby at_169) rfl (decide_eq_true rfl) (by decide) (by decide) k) ?_
    show Go p.tables e below s _ _ _ (T204.setTop (mkF m 174 #[.val (.int p1), .val (.int p2), .val (.int p3), .val (.int p4), .val (.int (1 : Int32)), .val (.ref b1), .val (.ref b32), .val (.ref b85), .val (.ref b140), .val (.long ((0 : Int64) + (1 : Int64))), .second, .val (.ref b1), .unset] []))
    refine Go.on (fun t k => XS.aload X204.here hx rfl (hb hby at_174) rfl rfl k) ?_
    show Go p.tables e below s _ _ _ (T204.setTop (mkF m 176 #[.val (.int p1), .val (.int p2), .val (.int p3), .val (.int p4), .val (.int (1 : Int32)), .val (.ref b1), .val (.ref b32), .val (.ref b85), .val (.ref b140), .val (.long ((0 : Int64) + (1 : Int64))), .second, .val (.ref b1), .unset] [(.ref b140)]))
    refine Go.on (fun t k => XS.aload X204.here hx rfl (hb hby at_176) rfl rfl k) ?_
    show Go p.tables e below s _ _ _ (T204.setTop (mkF m 178 #[.val (.int p1), .val (.int p2), .val (.int p3), .val (.int p4), .val (.int (1 : Int32)), .val (.ref b1), .val (.ref b32), .val (.ref b85), .val (.ref b140), .val (.long ((0 : Int64) + (1 : Int64))), .second, .val (.ref b1), .unset] [(.ref b85), (.ref b140)]))
    obtain ⟨cq206, kq206, q206a, q206b, q206c⟩ := isOf hZ e204 A140_199
    obtain ⟨_, _, ⟨T206, L206, k206, n206⟩, -, X206, ⟨Lc206, hQ206, l206, y206, z206⟩, st206⟩ := X204.virtualBack hx (y := (⟨"com/example/loomport/loomport/loadgen/Tally", "error", "(Ljava/lang/String;)V"⟩ : MethodName)) (z := (⟨"com/example/loomport/loomport/loadgen/Tally", "error", "(Ljava/lang/String;)V"⟩ : MethodName)) hown (mvT hZ (hw _ (List.mem_of_getElem? (i := 76) rfl))) (mvT hZ (hw _ (List.mem_of_getElem? (i := 77) rfl))) (notFace_of_selects (args := #[]) (mvT hZ (hw _ (List.mem_of_getElem? (i := 79) rfl)))) (mvT hZ (hw _ (List.mem_of_getElem? (i := 79) rfl))) (mvT hZ (hw _ (List.mem_of_getElem? (i := 78) rfl))) (by decide) (backOf (W := 0) (rm14s l Z a0 hw [] b140 b85 ((0 : Int64) + (1 : Int64)) b1 T191.heap n0 Zp200 A140_199 ge147 P191_0 P191_1) hZ (hw _ (List.mem_of_getElem? (i := 80) rfl)) (hw _ (List.mem_of_getElem? (i := 32) rfl)) (by decide) (by decide)) q206a q206c (g := (mkF m 178 #[.val (.int p1), .val (.int p2), .val (.int p3), .val (.int p4), .val (.int (1 : Int32)), .val (.ref b1), .val (.ref b32), .val (.ref b85), .val (.ref b140), .val (.long ((0 : Int64) + (1 : Int64))), .second, .val (.ref b1), .unset] [(.ref b85), (.ref b140)])) rfl (by rw [hml]; rfl) (Steps.refl _) (argsL := [(.ref b85)]) (rest := []) (lenOf pd__40_Ljava_47_lang_47_String_59__41_V rfl) rfl (by show 2 * 0 + _ ≤ _; exact Nat.le_of_eq rfl) (hb hby at_178) (fun _ _ => ⟨rfl, e204, (by decide : ((((((((((((((0 + 1) + 1) + 1) + 1) + 1) + 1) + 1) + 1) + 1) + 1) + 2) + 0) + 0) + 0) + 0 ≤ _), (by decide : ((((((((((((((0 + 4) + 1) + 1) + 4) + 2) + 2) + 4) + 1) + 1) + 7) + 45058) + 0) + 0) + 0) + 0 ≤ _)⟩)
    dsimp only [Pt.U, Pt.locs, Pt.cells, Pt.slots] at X206 l206 y206 z206 st206 hQ206
    subst l206 y206 z206
    obtain ⟨rfl, Nq206, Kq206, P206_0, P206_1⟩ := hQ206
    have Old0_207 := Old0_192.keep Kq206 (allS ge147 all0)
    have A1_208 := A1_193.keep Kq206
    have Vb8_209 := Vb8_194.keep Kq206 (ninS ne142 nin0)
    have A32_210 := A32_195.keep Kq206
    have Vb43_211 := Vb43_196.keep Kq206 (ninS ne144 nin0)
    have A85_212 := A85_197.keep Kq206
    have Vb100_213 := Vb100_198.keep Kq206 (ninS ne146 nin0)
    have A140_214 := A140_199.keep Kq206
    have Zp215 := Nat.le_trans Zp200 Kq206.1
    have Np216 := Fr.app Np205 Nq206
    refine Go.via st206 ?_
    show Go p.tables e below s _ _ _ (T206.setTop (mkF m 181 #[.val (.int p1), .val (.int p2), .val (.int p3), .val (.int p4), .val (.int (1 : Int32)), .val (.ref b1), .val (.ref b32), .val (.ref b85), .val (.ref b140), .val (.long ((0 : Int64) + (1 : Int64))), .second, .val (.ref b1), .unset] []))
    refine Go.on (fun t k => XS.aload X206.here hx rfl (hb hby at_181) rfl rfl k) ?_
    show Go p.tables e below s _ _ _ (T206.setTop (mkF m 183 #[.val (.int p1), .val (.int p2), .val (.int p3), .val (.int p4), .val (.int (1 : Int32)), .val (.ref b1), .val (.ref b32), .val (.ref b85), .val (.ref b140), .val (.long ((0 : Int64) + (1 : Int64))), .second, .val (.ref b1), .unset] [(.ref b140)]))
    obtain ⟨cq217, kq217, q217a, q217b, q217c⟩ := isOf hZ rfl A140_214
    obtain ⟨_, _, ⟨T217, L217, k217, n217⟩, -, X217, ⟨Lc217, hQ217, l217, y217, z217⟩, st217⟩ := X206.virtualBack hx (y := (⟨"com/example/loomport/loomport/loadgen/Tally", "errors", "()J"⟩ : MethodName)) (z := (⟨"com/example/loomport/loomport/loadgen/Tally", "errors", "()J"⟩ : MethodName)) hown (mvT hZ (hw _ (List.mem_of_getElem? (i := 62) rfl))) (mvT hZ (hw _ (List.mem_of_getElem? (i := 63) rfl))) (notFace_of_selects (args := #[]) (mvT hZ (hw _ (List.mem_of_getElem? (i := 65) rfl)))) (mvT hZ (hw _ (List.mem_of_getElem? (i := 65) rfl))) (mvT hZ (hw _ (List.mem_of_getElem? (i := 64) rfl))) (by decide) (backOf (W := 0) (rm12 l Z a0 hw [] b140 (((0 : Int64) + (1 : Int64)) + (1 : Int64)) T206.heap n0 Zp215 P206_0) hZ (hw _ (List.mem_of_getElem? (i := 66) rfl)) (hw _ (List.mem_of_getElem? (i := 32) rfl)) (by decide) (by decide)) q217a q217c (g := (mkF m 183 #[.val (.int p1), .val (.int p2), .val (.int p3), .val (.int p4), .val (.int (1 : Int32)), .val (.ref b1), .val (.ref b32), .val (.ref b85), .val (.ref b140), .val (.long ((0 : Int64) + (1 : Int64))), .second, .val (.ref b1), .unset] [(.ref b140)])) rfl (by rw [hml]; rfl) (Steps.refl _) (argsL := []) (rest := []) (lenOf pd__40__41_J rfl) rfl (by show 2 * 0 + _ ≤ _; exact Nat.le_of_eq rfl) (hb hby at_183) (fun _ _ => ⟨rfl, rfl, (by decide : (((((((((((((((0 + 1) + 1) + 1) + 1) + 1) + 1) + 1) + 1) + 1) + 1) + 2) + 0) + 0) + 0) + 0) + 0 ≤ _), (by decide : (((((((((((((((0 + 4) + 1) + 1) + 4) + 2) + 2) + 4) + 1) + 1) + 7) + 45058) + 0) + 0) + 0) + 0) + 0 ≤ _)⟩)
    dsimp only [Pt.U, Pt.locs, Pt.cells, Pt.slots] at X217 l217 y217 z217 st217 hQ217
    subst l217 y217 z217
    obtain ⟨rfl, Nq217, e217⟩ := hQ217
    have Np218 := Fr.app Np216 Nq217
    refine Go.via st217 ?_
    show Go p.tables e below s _ _ _ (T217.setTop (mkF m 186 #[.val (.int p1), .val (.int p2), .val (.int p3), .val (.int p4), .val (.int (1 : Int32)), .val (.ref b1), .val (.ref b32), .val (.ref b85), .val (.ref b140), .val (.long ((0 : Int64) + (1 : Int64))), .second, .val (.ref b1), .unset] [(.long (((0 : Int64) + (1 : Int64)) + (1 : Int64)))]))
    refine Go.on (fun t k => XS.iload X217.here hx rfl (hb hby at_186) rfl k) ?_
    show Go p.tables e below s _ _ _ (T217.setTop (mkF m 188 #[.val (.int p1), .val (.int p2), .val (.int p3), .val (.int p4), .val (.int (1 : Int32)), .val (.ref b1), .val (.ref b32), .val (.ref b85), .val (.ref b140), .val (.long ((0 : Int64) + (1 : Int64))), .second, .val (.ref b1), .unset] [(.int (1 : Int32)), (.long (((0 : Int64) + (1 : Int64)) + (1 : Int64)))]))
    refine Go.on (fun t k => XS.iconst X217.here hx rfl (hb hby at_188) k) ?_
    show Go p.tables e below s _ _ _ (T217.setTop (mkF m 189 #[.val (.int p1), .val (.int p2), .val (.int p3), .val (.int p4), .val (.int (1 : Int32)), .val (.ref b1), .val (.ref b32), .val (.ref b85), .val (.ref b140), .val (.long ((0 : Int64) + (1 : Int64))), .second, .val (.ref b1), .unset] [(.int (1 : Int32)), (.int (1 : Int32)), (.long (((0 : Int64) + (1 : Int64)) + (1 : Int64)))]))
    refine Go.on (fun t k => XS.iadd X217.here hx rfl (hb hby at_189) rfl k) ?_
    show Go p.tables e below s _ _ _ (T217.setTop (mkF m 190 #[.val (.int p1), .val (.int p2), .val (.int p3), .val (.int p4), .val (.int (1 : Int32)), .val (.ref b1), .val (.ref b32), .val (.ref b85), .val (.ref b140), .val (.long ((0 : Int64) + (1 : Int64))), .second, .val (.ref b1), .unset] [(.int (2 : Int32)), (.long (((0 : Int64) + (1 : Int64)) + (1 : Int64)))]))
    refine Go.on (fun t k => XS.i2l X217.here hx rfl (hb hby at_190) rfl k) ?_
    show Go p.tables e below s _ _ _ (T217.setTop (mkF m 191 #[.val (.int p1), .val (.int p2), .val (.int p3), .val (.int p4), .val (.int (1 : Int32)), .val (.ref b1), .val (.ref b32), .val (.ref b85), .val (.ref b140), .val (.long ((0 : Int64) + (1 : Int64))), .second, .val (.ref b1), .unset] [(.long ((2 : Int32).toInt64)), (.long (((0 : Int64) + (1 : Int64)) + (1 : Int64)))]))
    refine Go.on (fun t k => XS.lcmp X217.here hx rfl (hb hby at_191) rfl k) ?_
    show Go p.tables e below s _ _ _ (T217.setTop (mkF m 192 #[.val (.int p1), .val (.int p2), .val (.int p3), .val (.int p4), .val (.int (1 : Int32)), .val (.ref b1), .val (.ref b32), .val (.ref b85), .val (.ref b140), .val (.long ((0 : Int64) + (1 : Int64))), .second, .val (.ref b1), .unset] [(.int (lcmpW (((0 : Int64) + (1 : Int64)) + (1 : Int64)) ((2 : Int32).toInt64)))]))
    refine Go.on (fun t k => XS.ifYes X217.here hx rfl (pc0 := 192) (pc' := 197) rfl (hb hby at_192) rfl ((if0 _ _).trans (teq (by decide : (lcmpW (((0 : Int64) + (1 : Int64)) + (1 : Int64)) ((2 : Int32).toInt64)) = (0 : Int32))).1) (by decide) (by decide) k) ?_
    show Go p.tables e below s _ _ _ (T217.setTop (mkF m 197 #[.val (.int p1), .val (.int p2), .val (.int p3), .val (.int p4), .val (.int (1 : Int32)), .val (.ref b1), .val (.ref b32), .val (.ref b85), .val (.ref b140), .val (.long ((0 : Int64) + (1 : Int64))), .second, .val (.ref b1), .unset] []))
    refine Go.on (fun t k => XS.iload X217.here hx rfl (hb hby at_197) rfl k) ?_
    show Go p.tables e below s _ _ _ (T217.setTop (mkF m 199 #[.val (.int p1), .val (.int p2), .val (.int p3), .val (.int p4), .val (.int (1 : Int32)), .val (.ref b1), .val (.ref b32), .val (.ref b85), .val (.ref b140), .val (.long ((0 : Int64) + (1 : Int64))), .second, .val (.ref b1), .unset] [(.int (1 : Int32))]))
    refine Go.on (fun t k => XS.ifYes X217.here hx rfl (pc0 := 199) (pc' := 207) rfl (hb hby at_199) rfl ((if0 _ _).trans (feq (by decide : ¬ ((1 : Int32) = (0 : Int32)))).2) (by decide) (by decide) k) ?_
    show Go p.tables e below s _ _ _ (T217.setTop (mkF m 207 #[.val (.int p1), .val (.int p2), .val (.int p3), .val (.int p4), .val (.int (1 : Int32)), .val (.ref b1), .val (.ref b32), .val (.ref b85), .val (.ref b140), .val (.long ((0 : Int64) + (1 : Int64))), .second, .val (.ref b1), .unset] []))
    refine Go.on (fun t k => XS.aload X217.here hx rfl (hb hby at_207) rfl rfl k) ?_
    show Go p.tables e below s _ _ _ (T217.setTop (mkF m 209 #[.val (.int p1), .val (.int p2), .val (.int p3), .val (.int p4), .val (.int (1 : Int32)), .val (.ref b1), .val (.ref b32), .val (.ref b85), .val (.ref b140), .val (.long ((0 : Int64) + (1 : Int64))), .second, .val (.ref b1), .unset] [(.ref b1)]))
    refine Go.on (fun t k => XS.astore X217.here hx rfl (hb hby at_209) rfl rfl (l' := #[.val (.int p1), .val (.int p2), .val (.int p3), .val (.int p4), .val (.int (1 : Int32)), .val (.ref b1), .val (.ref b32), .val (.ref b85), .val (.ref b140), .val (.long ((0 : Int64) + (1 : Int64))), .second, .val (.ref b1), .val (.ref b1)]) rfl k) ?_
    show Go p.tables e below s _ _ _ (T217.setTop (mkF m 211 #[.val (.int p1), .val (.int p2), .val (.int p3), .val (.int p4), .val (.int (1 : Int32)), .val (.ref b1), .val (.ref b32), .val (.ref b85), .val (.ref b140), .val (.long ((0 : Int64) + (1 : Int64))), .second, .val (.ref b1), .val (.ref b1)] []))
    refine Go.on (fun t k => XS.aload X217.here hx rfl (hb hby at_211) rfl rfl k) ?_
    show Go p.tables e below s _ _ _ (T217.setTop (mkF m 213 #[.val (.int p1), .val (.int p2), .val (.int p3), .val (.int p4), .val (.int (1 : Int32)), .val (.ref b1), .val (.ref b32), .val (.ref b85), .val (.ref b140), .val (.long ((0 : Int64) + (1 : Int64))), .second, .val (.ref b1), .val (.ref b1)] [(.ref b140)]))
    obtain ⟨cq219, kq219, q219a, q219b, q219c⟩ := isOf hZ e217 A140_214
    obtain ⟨_, _, ⟨T219, L219, k219, n219⟩, -, X219, ⟨Lc219, hQ219, l219, y219, z219⟩, st219⟩ := X217.virtualBack hx (y := (⟨"com/example/loomport/loomport/loadgen/Tally", "firstError", "()Ljava/lang/String;"⟩ : MethodName)) (z := (⟨"com/example/loomport/loomport/loadgen/Tally", "firstError", "()Ljava/lang/String;"⟩ : MethodName)) hown (mvT hZ (hw _ (List.mem_of_getElem? (i := 69) rfl))) (mvT hZ (hw _ (List.mem_of_getElem? (i := 70) rfl))) (notFace_of_selects (args := #[]) (mvT hZ (hw _ (List.mem_of_getElem? (i := 72) rfl)))) (mvT hZ (hw _ (List.mem_of_getElem? (i := 72) rfl))) (mvT hZ (hw _ (List.mem_of_getElem? (i := 71) rfl))) (by decide) (backOf (W := 0) (rm13s l Z a0 hw [] b140 b1 T206.heap n0 Zp215 P206_1) hZ (hw _ (List.mem_of_getElem? (i := 73) rfl)) (hw _ (List.mem_of_getElem? (i := 32) rfl)) (by decide) (by decide)) q219a q219c (g := (mkF m 213 #[.val (.int p1), .val (.int p2), .val (.int p3), .val (.int p4), .val (.int (1 : Int32)), .val (.ref b1), .val (.ref b32), .val (.ref b85), .val (.ref b140), .val (.long ((0 : Int64) + (1 : Int64))), .second, .val (.ref b1), .val (.ref b1)] [(.ref b140)])) rfl (by rw [hml]; rfl) (Steps.refl _) (argsL := []) (rest := []) (lenOf pd__40__41_Ljava_47_lang_47_String_59_ rfl) rfl (by show 2 * 0 + _ ≤ _; exact Nat.le_of_eq rfl) (hb hby at_213) (fun _ _ => ⟨rfl, e217, (by decide : ((((((((((((((((0 + 1) + 1) + 1) + 1) + 1) + 1) + 1) + 1) + 1) + 1) + 2) + 0) + 0) + 0) + 0) + 0) + 0 ≤ _), (by decide : ((((((((((((((((0 + 4) + 1) + 1) + 4) + 2) + 2) + 4) + 1) + 1) + 7) + 45058) + 0) + 0) + 0) + 0) + 0) + 0 ≤ _)⟩)
    dsimp only [Pt.U, Pt.locs, Pt.cells, Pt.slots] at X219 l219 y219 z219 st219 hQ219
    subst l219 y219 z219
    obtain ⟨rfl, Nq219, e219⟩ := hQ219
    have Np220 := Fr.app Np218 Nq219
    refine Go.via st219 ?_
    show Go p.tables e below s _ _ _ (T219.setTop (mkF m 216 #[.val (.int p1), .val (.int p2), .val (.int p3), .val (.int p4), .val (.int (1 : Int32)), .val (.ref b1), .val (.ref b32), .val (.ref b85), .val (.ref b140), .val (.long ((0 : Int64) + (1 : Int64))), .second, .val (.ref b1), .val (.ref b1)] [(.ref b1)]))
    refine Go.on (fun t k => XS.aload X219.here hx rfl (hb hby at_216) rfl rfl k) ?_
    show Go p.tables e below s _ _ _ (T219.setTop (mkF m 218 #[.val (.int p1), .val (.int p2), .val (.int p3), .val (.int p4), .val (.int (1 : Int32)), .val (.ref b1), .val (.ref b32), .val (.ref b85), .val (.ref b140), .val (.long ((0 : Int64) + (1 : Int64))), .second, .val (.ref b1), .val (.ref b1)] [(.ref b1), (.ref b1)]))
    refine Go.on (fun t k => Jvm.RoadKit.acmp (g := (mkF m 218 #[.val (.int p1), .val (.int p2), .val (.int p3), .val (.int p4), .val (.int (1 : Int32)), .val (.ref b1), .val (.ref b32), .val (.ref b85), .val (.ref b140), .val (.long ((0 : Int64) + (1 : Int64))), .second, .val (.ref b1), .val (.ref b1)] [(.ref b1), (.ref b1)])) X219 hx rfl rfl rfl (pc0 := 218) (pc' := 221) (same := true) rfl (hb hby at_218) rfl (decide_eq_true rfl) (by decide) (by decide) k) ?_
    show Go p.tables e below s _ _ _ (T219.setTop (mkF m 221 #[.val (.int p1), .val (.int p2), .val (.int p3), .val (.int p4), .val (.int (1 : Int32)), .val (.ref b1), .val (.ref b32), .val (.ref b85), .val (.ref b140), .val (.long ((0 : Int64) + (1 : Int64))), .second, .val (.ref b1), .val (.ref b1)] []))
    refine Go.on (fun t k => XS.iconst X219.here hx rfl (hb hby at_221) k) ?_
    show Go p.tables e below s _ _ _ (T219.setTop (mkF m 222 #[.val (.int p1), .val (.int p2), .val (.int p3), .val (.int p4), .val (.int (1 : Int32)), .val (.ref b1), .val (.ref b32), .val (.ref b85), .val (.ref b140), .val (.long ((0 : Int64) + (1 : Int64))), .second, .val (.ref b1), .val (.ref b1)] [(.int (1 : Int32))]))
    refine Go.on (fun t k => XS.goto X219.here hx rfl (pc0 := 222) (pc' := 226) rfl (hb hby at_222) (by decide) (by decide) k) ?_
    show Go p.tables e below s _ _ _ (T219.setTop (mkF m 226 #[.val (.int p1), .val (.int p2), .val (.int p3), .val (.int p4), .val (.int (1 : Int32)), .val (.ref b1), .val (.ref b32), .val (.ref b85), .val (.ref b140), .val (.long ((0 : Int64) + (1 : Int64))), .second, .val (.ref b1), .val (.ref b1)] [(.int (1 : Int32))]))
    refine Go.retN X219 hx hlk (t := .boolean) Bd.returns (by simp) (hb hby at_226) (by decide) (by decide) e219 ?_
    exact ⟨rfl, Np220⟩
  · rw [hk]
    show Go p.tables e below s _ _ _ (T160.setTop (mkF m 89 #[.val (.int p1), .val (.int p2), .val (.int p3), .val (.int p4), .val (.int (2 : Int32)), .val (.ref b1), .val (.ref b32), .val (.ref b85), .val (.ref b140), .unset, .unset, .unset, .unset] []))
    refine Go.on (fun t k => XS.iload X160.here hx rfl (hb hby at_89) rfl k) ?_
    show Go p.tables e below s _ _ _ (T160.setTop (mkF m 91 #[.val (.int p1), .val (.int p2), .val (.int p3), .val (.int p4), .val (.int (2 : Int32)), .val (.ref b1), .val (.ref b32), .val (.ref b85), .val (.ref b140), .unset, .unset, .unset, .unset] [(.int (2 : Int32))]))
    refine Go.on (fun t k => XS.iconst X160.here hx rfl (hb hby at_91) k) ?_
    show Go p.tables e below s _ _ _ (T160.setTop (mkF m 92 #[.val (.int p1), .val (.int p2), .val (.int p3), .val (.int p4), .val (.int (2 : Int32)), .val (.ref b1), .val (.ref b32), .val (.ref b85), .val (.ref b140), .unset, .unset, .unset, .unset] [(.int (1 : Int32)), (.int (2 : Int32))]))
    refine Go.on (fun t k => XS.icmpNo X160.here hx rfl (hb hby at_92) rfl (flt (by decide : ¬ ((2 : Int32) < (1 : Int32)))).1 k) ?_
    show Go p.tables e below s _ _ _ (T160.setTop (mkF m 95 #[.val (.int p1), .val (.int p2), .val (.int p3), .val (.int p4), .val (.int (2 : Int32)), .val (.ref b1), .val (.ref b32), .val (.ref b85), .val (.ref b140), .unset, .unset, .unset, .unset] []))
    refine Go.on (fun t k => XS.aload X160.here hx rfl (hb hby at_95) rfl rfl k) ?_
    show Go p.tables e below s _ _ _ (T160.setTop (mkF m 97 #[.val (.int p1), .val (.int p2), .val (.int p3), .val (.int p4), .val (.int (2 : Int32)), .val (.ref b1), .val (.ref b32), .val (.ref b85), .val (.ref b140), .unset, .unset, .unset, .unset] [(.ref b140)]))
    refine Go.on (fun t k => XS.aload X160.here hx rfl (hb hby at_97) rfl rfl k) ?_
    show Go p.tables e below s _ _ _ (T160.setTop (mkF m 99 #[.val (.int p1), .val (.int p2), .val (.int p3), .val (.int p4), .val (.int (2 : Int32)), .val (.ref b1), .val (.ref b32), .val (.ref b85), .val (.ref b140), .unset, .unset, .unset, .unset] [(.ref b1), (.ref b140)]))
    obtain ⟨cq221, kq221, q221a, q221b, q221c⟩ := isOf hZ rfl A140_168
    obtain ⟨_, _, ⟨T221, L221, k221, n221⟩, -, X221, ⟨Lc221, hQ221, l221, y221, z221⟩, st221⟩ := X160.virtualBack hx (y := (⟨"com/example/loomport/loomport/loadgen/Tally", "error", "(Ljava/lang/String;)V"⟩ : MethodName)) (z := (⟨"com/example/loomport/loomport/loadgen/Tally", "error", "(Ljava/lang/String;)V"⟩ : MethodName)) hown (mvT hZ (hw _ (List.mem_of_getElem? (i := 76) rfl))) (mvT hZ (hw _ (List.mem_of_getElem? (i := 77) rfl))) (notFace_of_selects (args := #[]) (mvT hZ (hw _ (List.mem_of_getElem? (i := 79) rfl)))) (mvT hZ (hw _ (List.mem_of_getElem? (i := 79) rfl))) (mvT hZ (hw _ (List.mem_of_getElem? (i := 78) rfl))) (by decide) (backOf (W := 0) (rm14n l Z a0 hw [] b140 b1 (0 : Int64) T160.heap n0 Zp169 A140_168 ge147 P160_0 P160_1) hZ (hw _ (List.mem_of_getElem? (i := 80) rfl)) (hw _ (List.mem_of_getElem? (i := 32) rfl)) (by decide) (by decide)) q221a q221c (g := (mkF m 99 #[.val (.int p1), .val (.int p2), .val (.int p3), .val (.int p4), .val (.int (2 : Int32)), .val (.ref b1), .val (.ref b32), .val (.ref b85), .val (.ref b140), .unset, .unset, .unset, .unset] [(.ref b1), (.ref b140)])) rfl (by rw [hml]; rfl) (Steps.refl _) (argsL := [(.ref b1)]) (rest := []) (lenOf pd__40_Ljava_47_lang_47_String_59__41_V rfl) rfl (by show 2 * 0 + _ ≤ _; exact Nat.le_of_eq rfl) (hb hby at_99) (fun _ _ => ⟨rfl, rfl, (by decide : (((((((((((0 + 1) + 1) + 1) + 1) + 1) + 1) + 1) + 1) + 1) + 1) + 2) + 0 ≤ _), (by decide : (((((((((((0 + 4) + 1) + 1) + 4) + 2) + 2) + 4) + 1) + 1) + 7) + 45058) + 0 ≤ _)⟩)
    dsimp only [Pt.U, Pt.locs, Pt.cells, Pt.slots] at X221 l221 y221 z221 st221 hQ221
    subst l221 y221 z221
    obtain ⟨rfl, Nq221, Kq221, P221_0, P221_1⟩ := hQ221
    have Old0_222 := Old0_161.keep Kq221 (allS ge147 all0)
    have A1_223 := A1_162.keep Kq221
    have Vb8_224 := Vb8_163.keep Kq221 (ninS ne142 nin0)
    have A32_225 := A32_164.keep Kq221
    have Vb43_226 := Vb43_165.keep Kq221 (ninS ne144 nin0)
    have A85_227 := A85_166.keep Kq221
    have Vb100_228 := Vb100_167.keep Kq221 (ninS ne146 nin0)
    have A140_229 := A140_168.keep Kq221
    have Zp230 := Nat.le_trans Zp169 Kq221.1
    have Np231 := Fr.app Np170 Nq221
    refine Go.via st221 ?_
    show Go p.tables e below s _ _ _ (T221.setTop (mkF m 102 #[.val (.int p1), .val (.int p2), .val (.int p3), .val (.int p4), .val (.int (2 : Int32)), .val (.ref b1), .val (.ref b32), .val (.ref b85), .val (.ref b140), .unset, .unset, .unset, .unset] []))
    refine Go.on (fun t k => XS.iload X221.here hx rfl (hb hby at_102) rfl k) ?_
    show Go p.tables e below s _ _ _ (T221.setTop (mkF m 104 #[.val (.int p1), .val (.int p2), .val (.int p3), .val (.int p4), .val (.int (2 : Int32)), .val (.ref b1), .val (.ref b32), .val (.ref b85), .val (.ref b140), .unset, .unset, .unset, .unset] [(.int (2 : Int32))]))
    refine Go.on (fun t k => XS.iconst X221.here hx rfl (hb hby at_104) k) ?_
    show Go p.tables e below s _ _ _ (T221.setTop (mkF m 105 #[.val (.int p1), .val (.int p2), .val (.int p3), .val (.int p4), .val (.int (2 : Int32)), .val (.ref b1), .val (.ref b32), .val (.ref b85), .val (.ref b140), .unset, .unset, .unset, .unset] [(.int (2 : Int32)), (.int (2 : Int32))]))
    refine Go.on (fun t k => XS.icmpNo X221.here hx rfl (hb hby at_105) rfl (flt (by decide : ¬ ((2 : Int32) < (2 : Int32)))).1 k) ?_
    show Go p.tables e below s _ _ _ (T221.setTop (mkF m 108 #[.val (.int p1), .val (.int p2), .val (.int p3), .val (.int p4), .val (.int (2 : Int32)), .val (.ref b1), .val (.ref b32), .val (.ref b85), .val (.ref b140), .unset, .unset, .unset, .unset] []))
    refine Go.on (fun t k => XS.aload X221.here hx rfl (hb hby at_108) rfl rfl k) ?_
    show Go p.tables e below s _ _ _ (T221.setTop (mkF m 110 #[.val (.int p1), .val (.int p2), .val (.int p3), .val (.int p4), .val (.int (2 : Int32)), .val (.ref b1), .val (.ref b32), .val (.ref b85), .val (.ref b140), .unset, .unset, .unset, .unset] [(.ref b140)]))
    refine Go.on (fun t k => XS.aload X221.here hx rfl (hb hby at_110) rfl rfl k) ?_
    show Go p.tables e below s _ _ _ (T221.setTop (mkF m 112 #[.val (.int p1), .val (.int p2), .val (.int p3), .val (.int p4), .val (.int (2 : Int32)), .val (.ref b1), .val (.ref b32), .val (.ref b85), .val (.ref b140), .unset, .unset, .unset, .unset] [(.ref b32), (.ref b140)]))
    obtain ⟨cq232, kq232, q232a, q232b, q232c⟩ := isOf hZ rfl A140_229
    obtain ⟨_, _, ⟨T232, L232, k232, n232⟩, -, X232, ⟨Lc232, hQ232, l232, y232, z232⟩, st232⟩ := X221.virtualBack hx (y := (⟨"com/example/loomport/loomport/loadgen/Tally", "error", "(Ljava/lang/String;)V"⟩ : MethodName)) (z := (⟨"com/example/loomport/loomport/loadgen/Tally", "error", "(Ljava/lang/String;)V"⟩ : MethodName)) hown (mvT hZ (hw _ (List.mem_of_getElem? (i := 76) rfl))) (mvT hZ (hw _ (List.mem_of_getElem? (i := 77) rfl))) (notFace_of_selects (args := #[]) (mvT hZ (hw _ (List.mem_of_getElem? (i := 79) rfl)))) (mvT hZ (hw _ (List.mem_of_getElem? (i := 79) rfl))) (mvT hZ (hw _ (List.mem_of_getElem? (i := 78) rfl))) (by decide) (backOf (W := 0) (rm14s l Z a0 hw [] b140 b32 ((0 : Int64) + (1 : Int64)) b1 T221.heap n0 Zp230 A140_229 ge147 P221_0 P221_1) hZ (hw _ (List.mem_of_getElem? (i := 80) rfl)) (hw _ (List.mem_of_getElem? (i := 32) rfl)) (by decide) (by decide)) q232a q232c (g := (mkF m 112 #[.val (.int p1), .val (.int p2), .val (.int p3), .val (.int p4), .val (.int (2 : Int32)), .val (.ref b1), .val (.ref b32), .val (.ref b85), .val (.ref b140), .unset, .unset, .unset, .unset] [(.ref b32), (.ref b140)])) rfl (by rw [hml]; rfl) (Steps.refl _) (argsL := [(.ref b32)]) (rest := []) (lenOf pd__40_Ljava_47_lang_47_String_59__41_V rfl) rfl (by show 2 * 0 + _ ≤ _; exact Nat.le_of_eq rfl) (hb hby at_112) (fun _ _ => ⟨rfl, rfl, (by decide : ((((((((((((0 + 1) + 1) + 1) + 1) + 1) + 1) + 1) + 1) + 1) + 1) + 2) + 0) + 0 ≤ _), (by decide : ((((((((((((0 + 4) + 1) + 1) + 4) + 2) + 2) + 4) + 1) + 1) + 7) + 45058) + 0) + 0 ≤ _)⟩)
    dsimp only [Pt.U, Pt.locs, Pt.cells, Pt.slots] at X232 l232 y232 z232 st232 hQ232
    subst l232 y232 z232
    obtain ⟨rfl, Nq232, Kq232, P232_0, P232_1⟩ := hQ232
    have Old0_233 := Old0_222.keep Kq232 (allS ge147 all0)
    have A1_234 := A1_223.keep Kq232
    have Vb8_235 := Vb8_224.keep Kq232 (ninS ne142 nin0)
    have A32_236 := A32_225.keep Kq232
    have Vb43_237 := Vb43_226.keep Kq232 (ninS ne144 nin0)
    have A85_238 := A85_227.keep Kq232
    have Vb100_239 := Vb100_228.keep Kq232 (ninS ne146 nin0)
    have A140_240 := A140_229.keep Kq232
    have Zp241 := Nat.le_trans Zp230 Kq232.1
    have Np242 := Fr.app Np231 Nq232
    refine Go.via st232 ?_
    show Go p.tables e below s _ _ _ (T232.setTop (mkF m 115 #[.val (.int p1), .val (.int p2), .val (.int p3), .val (.int p4), .val (.int (2 : Int32)), .val (.ref b1), .val (.ref b32), .val (.ref b85), .val (.ref b140), .unset, .unset, .unset, .unset] []))
    refine Go.on (fun t k => XS.iload X232.here hx rfl (hb hby at_115) rfl k) ?_
    show Go p.tables e below s _ _ _ (T232.setTop (mkF m 117 #[.val (.int p1), .val (.int p2), .val (.int p3), .val (.int p4), .val (.int (2 : Int32)), .val (.ref b1), .val (.ref b32), .val (.ref b85), .val (.ref b140), .unset, .unset, .unset, .unset] [(.int (2 : Int32))]))
    refine Go.on (fun t k => XS.iconst X232.here hx rfl (hb hby at_117) k) ?_
    show Go p.tables e below s _ _ _ (T232.setTop (mkF m 118 #[.val (.int p1), .val (.int p2), .val (.int p3), .val (.int p4), .val (.int (2 : Int32)), .val (.ref b1), .val (.ref b32), .val (.ref b85), .val (.ref b140), .unset, .unset, .unset, .unset] [(.int (3 : Int32)), (.int (2 : Int32))]))
    refine Go.on (fun t k => XS.icmpYes X232.here hx rfl (pc0 := 118) (pc' := 128) rfl (hb hby at_118) rfl (tlt (by decide : (2 : Int32) < (3 : Int32))).1 (by decide) (by decide) k) ?_
    show Go p.tables e below s _ _ _ (T232.setTop (mkF m 128 #[.val (.int p1), .val (.int p2), .val (.int p3), .val (.int p4), .val (.int (2 : Int32)), .val (.ref b1), .val (.ref b32), .val (.ref b85), .val (.ref b140), .unset, .unset, .unset, .unset] []))
    refine Go.on (fun t k => XS.aload X232.here hx rfl (hb hby at_128) rfl rfl k) ?_
    show Go p.tables e below s _ _ _ (T232.setTop (mkF m 130 #[.val (.int p1), .val (.int p2), .val (.int p3), .val (.int p4), .val (.int (2 : Int32)), .val (.ref b1), .val (.ref b32), .val (.ref b85), .val (.ref b140), .unset, .unset, .unset, .unset] [(.ref b140)]))
    obtain ⟨cq243, kq243, q243a, q243b, q243c⟩ := isOf hZ rfl A140_240
    obtain ⟨_, _, ⟨T243, L243, k243, n243⟩, -, X243, ⟨Lc243, hQ243, l243, y243, z243⟩, st243⟩ := X232.virtualBack hx (y := (⟨"com/example/loomport/loomport/loadgen/Tally", "errors", "()J"⟩ : MethodName)) (z := (⟨"com/example/loomport/loomport/loadgen/Tally", "errors", "()J"⟩ : MethodName)) hown (mvT hZ (hw _ (List.mem_of_getElem? (i := 62) rfl))) (mvT hZ (hw _ (List.mem_of_getElem? (i := 63) rfl))) (notFace_of_selects (args := #[]) (mvT hZ (hw _ (List.mem_of_getElem? (i := 65) rfl)))) (mvT hZ (hw _ (List.mem_of_getElem? (i := 65) rfl))) (mvT hZ (hw _ (List.mem_of_getElem? (i := 64) rfl))) (by decide) (backOf (W := 0) (rm12 l Z a0 hw [] b140 (((0 : Int64) + (1 : Int64)) + (1 : Int64)) T232.heap n0 Zp241 P232_0) hZ (hw _ (List.mem_of_getElem? (i := 66) rfl)) (hw _ (List.mem_of_getElem? (i := 32) rfl)) (by decide) (by decide)) q243a q243c (g := (mkF m 130 #[.val (.int p1), .val (.int p2), .val (.int p3), .val (.int p4), .val (.int (2 : Int32)), .val (.ref b1), .val (.ref b32), .val (.ref b85), .val (.ref b140), .unset, .unset, .unset, .unset] [(.ref b140)])) rfl (by rw [hml]; rfl) (Steps.refl _) (argsL := []) (rest := []) (lenOf pd__40__41_J rfl) rfl (by show 2 * 0 + _ ≤ _; exact Nat.le_of_eq rfl) (hb hby at_130) (fun _ _ => ⟨rfl, rfl, (by decide : (((((((((((((0 + 1) + 1) + 1) + 1) + 1) + 1) + 1) + 1) + 1) + 1) + 2) + 0) + 0) + 0 ≤ _), (by decide : (((((((((((((0 + 4) + 1) + 1) + 4) + 2) + 2) + 4) + 1) + 1) + 7) + 45058) + 0) + 0) + 0 ≤ _)⟩)
    dsimp only [Pt.U, Pt.locs, Pt.cells, Pt.slots] at X243 l243 y243 z243 st243 hQ243
    subst l243 y243 z243
    obtain ⟨rfl, Nq243, e243⟩ := hQ243
    have Np244 := Fr.app Np242 Nq243
    refine Go.via st243 ?_
    show Go p.tables e below s _ _ _ (T243.setTop (mkF m 133 #[.val (.int p1), .val (.int p2), .val (.int p3), .val (.int p4), .val (.int (2 : Int32)), .val (.ref b1), .val (.ref b32), .val (.ref b85), .val (.ref b140), .unset, .unset, .unset, .unset] [(.long (((0 : Int64) + (1 : Int64)) + (1 : Int64)))]))
    refine Go.on (fun t k => XS.lstore X243.here hx rfl (hb hby at_133) rfl (l' := #[.val (.int p1), .val (.int p2), .val (.int p3), .val (.int p4), .val (.int (2 : Int32)), .val (.ref b1), .val (.ref b32), .val (.ref b85), .val (.ref b140), .val (.long (((0 : Int64) + (1 : Int64)) + (1 : Int64))), .second, .unset, .unset]) rfl k) ?_
    show Go p.tables e below s _ _ _ (T243.setTop (mkF m 135 #[.val (.int p1), .val (.int p2), .val (.int p3), .val (.int p4), .val (.int (2 : Int32)), .val (.ref b1), .val (.ref b32), .val (.ref b85), .val (.ref b140), .val (.long (((0 : Int64) + (1 : Int64)) + (1 : Int64))), .second, .unset, .unset] []))
    refine Go.on (fun t k => XS.aload X243.here hx rfl (hb hby at_135) rfl rfl k) ?_
    show Go p.tables e below s _ _ _ (T243.setTop (mkF m 137 #[.val (.int p1), .val (.int p2), .val (.int p3), .val (.int p4), .val (.int (2 : Int32)), .val (.ref b1), .val (.ref b32), .val (.ref b85), .val (.ref b140), .val (.long (((0 : Int64) + (1 : Int64)) + (1 : Int64))), .second, .unset, .unset] [(.ref b140)]))
    obtain ⟨cq245, kq245, q245a, q245b, q245c⟩ := isOf hZ e243 A140_240
    obtain ⟨_, _, ⟨T245, L245, k245, n245⟩, -, X245, ⟨Lc245, hQ245, l245, y245, z245⟩, st245⟩ := X243.virtualBack hx (y := (⟨"com/example/loomport/loomport/loadgen/Tally", "firstError", "()Ljava/lang/String;"⟩ : MethodName)) (z := (⟨"com/example/loomport/loomport/loadgen/Tally", "firstError", "()Ljava/lang/String;"⟩ : MethodName)) hown (mvT hZ (hw _ (List.mem_of_getElem? (i := 69) rfl))) (mvT hZ (hw _ (List.mem_of_getElem? (i := 70) rfl))) (notFace_of_selects (args := #[]) (mvT hZ (hw _ (List.mem_of_getElem? (i := 72) rfl)))) (mvT hZ (hw _ (List.mem_of_getElem? (i := 72) rfl))) (mvT hZ (hw _ (List.mem_of_getElem? (i := 71) rfl))) (by decide) (backOf (W := 0) (rm13s l Z a0 hw [] b140 b1 T232.heap n0 Zp241 P232_1) hZ (hw _ (List.mem_of_getElem? (i := 73) rfl)) (hw _ (List.mem_of_getElem? (i := 32) rfl)) (by decide) (by decide)) q245a q245c (g := (mkF m 137 #[.val (.int p1), .val (.int p2), .val (.int p3), .val (.int p4), .val (.int (2 : Int32)), .val (.ref b1), .val (.ref b32), .val (.ref b85), .val (.ref b140), .val (.long (((0 : Int64) + (1 : Int64)) + (1 : Int64))), .second, .unset, .unset] [(.ref b140)])) rfl (by rw [hml]; rfl) (Steps.refl _) (argsL := []) (rest := []) (lenOf pd__40__41_Ljava_47_lang_47_String_59_ rfl) rfl (by show 2 * 0 + _ ≤ _; exact Nat.le_of_eq rfl) (hb hby at_137) (fun _ _ => ⟨rfl, e243, (by decide : ((((((((((((((0 + 1) + 1) + 1) + 1) + 1) + 1) + 1) + 1) + 1) + 1) + 2) + 0) + 0) + 0) + 0 ≤ _), (by decide : ((((((((((((((0 + 4) + 1) + 1) + 4) + 2) + 2) + 4) + 1) + 1) + 7) + 45058) + 0) + 0) + 0) + 0 ≤ _)⟩)
    dsimp only [Pt.U, Pt.locs, Pt.cells, Pt.slots] at X245 l245 y245 z245 st245 hQ245
    subst l245 y245 z245
    obtain ⟨rfl, Nq245, e245⟩ := hQ245
    have Np246 := Fr.app Np244 Nq245
    refine Go.via st245 ?_
    show Go p.tables e below s _ _ _ (T245.setTop (mkF m 140 #[.val (.int p1), .val (.int p2), .val (.int p3), .val (.int p4), .val (.int (2 : Int32)), .val (.ref b1), .val (.ref b32), .val (.ref b85), .val (.ref b140), .val (.long (((0 : Int64) + (1 : Int64)) + (1 : Int64))), .second, .unset, .unset] [(.ref b1)]))
    refine Go.on (fun t k => XS.astore X245.here hx rfl (hb hby at_140) rfl rfl (l' := #[.val (.int p1), .val (.int p2), .val (.int p3), .val (.int p4), .val (.int (2 : Int32)), .val (.ref b1), .val (.ref b32), .val (.ref b85), .val (.ref b140), .val (.long (((0 : Int64) + (1 : Int64)) + (1 : Int64))), .second, .val (.ref b1), .unset]) rfl k) ?_
    show Go p.tables e below s _ _ _ (T245.setTop (mkF m 142 #[.val (.int p1), .val (.int p2), .val (.int p3), .val (.int p4), .val (.int (2 : Int32)), .val (.ref b1), .val (.ref b32), .val (.ref b85), .val (.ref b140), .val (.long (((0 : Int64) + (1 : Int64)) + (1 : Int64))), .second, .val (.ref b1), .unset] []))
    refine Go.on (fun t k => XS.lload X245.here hx rfl (hb hby at_142) rfl k) ?_
    show Go p.tables e below s _ _ _ (T245.setTop (mkF m 144 #[.val (.int p1), .val (.int p2), .val (.int p3), .val (.int p4), .val (.int (2 : Int32)), .val (.ref b1), .val (.ref b32), .val (.ref b85), .val (.ref b140), .val (.long (((0 : Int64) + (1 : Int64)) + (1 : Int64))), .second, .val (.ref b1), .unset] [(.long (((0 : Int64) + (1 : Int64)) + (1 : Int64)))]))
    refine Go.on (fun t k => XS.iload X245.here hx rfl (hb hby at_144) rfl k) ?_
    show Go p.tables e below s _ _ _ (T245.setTop (mkF m 146 #[.val (.int p1), .val (.int p2), .val (.int p3), .val (.int p4), .val (.int (2 : Int32)), .val (.ref b1), .val (.ref b32), .val (.ref b85), .val (.ref b140), .val (.long (((0 : Int64) + (1 : Int64)) + (1 : Int64))), .second, .val (.ref b1), .unset] [(.int (2 : Int32)), (.long (((0 : Int64) + (1 : Int64)) + (1 : Int64)))]))
    refine Go.on (fun t k => XS.i2l X245.here hx rfl (hb hby at_146) rfl k) ?_
    show Go p.tables e below s _ _ _ (T245.setTop (mkF m 147 #[.val (.int p1), .val (.int p2), .val (.int p3), .val (.int p4), .val (.int (2 : Int32)), .val (.ref b1), .val (.ref b32), .val (.ref b85), .val (.ref b140), .val (.long (((0 : Int64) + (1 : Int64)) + (1 : Int64))), .second, .val (.ref b1), .unset] [(.long ((2 : Int32).toInt64)), (.long (((0 : Int64) + (1 : Int64)) + (1 : Int64)))]))
    refine Go.on (fun t k => XS.lcmp X245.here hx rfl (hb hby at_147) rfl k) ?_
    show Go p.tables e below s _ _ _ (T245.setTop (mkF m 148 #[.val (.int p1), .val (.int p2), .val (.int p3), .val (.int p4), .val (.int (2 : Int32)), .val (.ref b1), .val (.ref b32), .val (.ref b85), .val (.ref b140), .val (.long (((0 : Int64) + (1 : Int64)) + (1 : Int64))), .second, .val (.ref b1), .unset] [(.int (lcmpW (((0 : Int64) + (1 : Int64)) + (1 : Int64)) ((2 : Int32).toInt64)))]))
    refine Go.on (fun t k => XS.ifYes X245.here hx rfl (pc0 := 148) (pc' := 153) rfl (hb hby at_148) rfl ((if0 _ _).trans (teq (by decide : (lcmpW (((0 : Int64) + (1 : Int64)) + (1 : Int64)) ((2 : Int32).toInt64)) = (0 : Int32))).1) (by decide) (by decide) k) ?_
    show Go p.tables e below s _ _ _ (T245.setTop (mkF m 153 #[.val (.int p1), .val (.int p2), .val (.int p3), .val (.int p4), .val (.int (2 : Int32)), .val (.ref b1), .val (.ref b32), .val (.ref b85), .val (.ref b140), .val (.long (((0 : Int64) + (1 : Int64)) + (1 : Int64))), .second, .val (.ref b1), .unset] []))
    refine Go.on (fun t k => XS.iload X245.here hx rfl (hb hby at_153) rfl k) ?_
    show Go p.tables e below s _ _ _ (T245.setTop (mkF m 155 #[.val (.int p1), .val (.int p2), .val (.int p3), .val (.int p4), .val (.int (2 : Int32)), .val (.ref b1), .val (.ref b32), .val (.ref b85), .val (.ref b140), .val (.long (((0 : Int64) + (1 : Int64)) + (1 : Int64))), .second, .val (.ref b1), .unset] [(.int (2 : Int32))]))
    refine Go.on (fun t k => XS.ifYes X245.here hx rfl (pc0 := 155) (pc' := 165) rfl (hb hby at_155) rfl ((if0 _ _).trans (feq (by decide : ¬ ((2 : Int32) = (0 : Int32)))).2) (by decide) (by decide) k) ?_
    show Go p.tables e below s _ _ _ (T245.setTop (mkF m 165 #[.val (.int p1), .val (.int p2), .val (.int p3), .val (.int p4), .val (.int (2 : Int32)), .val (.ref b1), .val (.ref b32), .val (.ref b85), .val (.ref b140), .val (.long (((0 : Int64) + (1 : Int64)) + (1 : Int64))), .second, .val (.ref b1), .unset] []))
    refine Go.on (fun t k => XS.aload X245.here hx rfl (hb hby at_165) rfl rfl k) ?_
    show Go p.tables e below s _ _ _ (T245.setTop (mkF m 167 #[.val (.int p1), .val (.int p2), .val (.int p3), .val (.int p4), .val (.int (2 : Int32)), .val (.ref b1), .val (.ref b32), .val (.ref b85), .val (.ref b140), .val (.long (((0 : Int64) + (1 : Int64)) + (1 : Int64))), .second, .val (.ref b1), .unset] [(.ref b1)]))
    refine Go.on (fun t k => XS.aload X245.here hx rfl (hb hby at_167) rfl rfl k) ?_
    show Go p.tables e below s _ _ _ (T245.setTop (mkF m 169 #[.val (.int p1), .val (.int p2), .val (.int p3), .val (.int p4), .val (.int (2 : Int32)), .val (.ref b1), .val (.ref b32), .val (.ref b85), .val (.ref b140), .val (.long (((0 : Int64) + (1 : Int64)) + (1 : Int64))), .second, .val (.ref b1), .unset] [(.ref b1), (.ref b1)]))
    refine Go.on (fun t k => Jvm.RoadKit.acmp (g := (mkF m 169 #[.val (.int p1), .val (.int p2), .val (.int p3), .val (.int p4), .val (.int (2 : Int32)), .val (.ref b1), .val (.ref b32), .val (.ref b85), .val (.ref b140), .val (.long (((0 : Int64) + (1 : Int64)) + (1 : Int64))), .second, .val (.ref b1), .unset] [(.ref b1), (.ref b1)])) X245 hx rfl rfl rfl (pc0 := 169) (pc' := 174) (same := true) rfl (hb hby at_169) rfl (decide_eq_true rfl) (by decide) (by decide) k) ?_
    show Go p.tables e below s _ _ _ (T245.setTop (mkF m 174 #[.val (.int p1), .val (.int p2), .val (.int p3), .val (.int p4), .val (.int (2 : Int32)), .val (.ref b1), .val (.ref b32), .val (.ref b85), .val (.ref b140), .val (.long (((0 : Int64) + (1 : Int64)) + (1 : Int64))), .second, .val (.ref b1), .unset] []))
    refine Go.on (fun t k => XS.aload X245.here hx rfl (hb hby at_174) rfl rfl k) ?_
    show Go p.tables e below s _ _ _ (T245.setTop (mkF m 176 #[.val (.int p1), .val (.int p2), .val (.int p3), .val (.int p4), .val (.int (2 : Int32)), .val (.ref b1), .val (.ref b32), .val (.ref b85), .val (.ref b140), .val (.long (((0 : Int64) + (1 : Int64)) + (1 : Int64))), .second, .val (.ref b1), .unset] [(.ref b140)]))
    refine Go.on (fun t k => XS.aload X245.here hx rfl (hb hby at_176) rfl rfl k) ?_
    show Go p.tables e below s _ _ _ (T245.setTop (mkF m 178 #[.val (.int p1), .val (.int p2), .val (.int p3), .val (.int p4), .val (.int (2 : Int32)), .val (.ref b1), .val (.ref b32), .val (.ref b85), .val (.ref b140), .val (.long (((0 : Int64) + (1 : Int64)) + (1 : Int64))), .second, .val (.ref b1), .unset] [(.ref b85), (.ref b140)]))
    obtain ⟨cq247, kq247, q247a, q247b, q247c⟩ := isOf hZ e245 A140_240
    obtain ⟨_, _, ⟨T247, L247, k247, n247⟩, -, X247, ⟨Lc247, hQ247, l247, y247, z247⟩, st247⟩ := X245.virtualBack hx (y := (⟨"com/example/loomport/loomport/loadgen/Tally", "error", "(Ljava/lang/String;)V"⟩ : MethodName)) (z := (⟨"com/example/loomport/loomport/loadgen/Tally", "error", "(Ljava/lang/String;)V"⟩ : MethodName)) hown (mvT hZ (hw _ (List.mem_of_getElem? (i := 76) rfl))) (mvT hZ (hw _ (List.mem_of_getElem? (i := 77) rfl))) (notFace_of_selects (args := #[]) (mvT hZ (hw _ (List.mem_of_getElem? (i := 79) rfl)))) (mvT hZ (hw _ (List.mem_of_getElem? (i := 79) rfl))) (mvT hZ (hw _ (List.mem_of_getElem? (i := 78) rfl))) (by decide) (backOf (W := 0) (rm14s l Z a0 hw [] b140 b85 (((0 : Int64) + (1 : Int64)) + (1 : Int64)) b1 T232.heap n0 Zp241 A140_240 ge147 P232_0 P232_1) hZ (hw _ (List.mem_of_getElem? (i := 80) rfl)) (hw _ (List.mem_of_getElem? (i := 32) rfl)) (by decide) (by decide)) q247a q247c (g := (mkF m 178 #[.val (.int p1), .val (.int p2), .val (.int p3), .val (.int p4), .val (.int (2 : Int32)), .val (.ref b1), .val (.ref b32), .val (.ref b85), .val (.ref b140), .val (.long (((0 : Int64) + (1 : Int64)) + (1 : Int64))), .second, .val (.ref b1), .unset] [(.ref b85), (.ref b140)])) rfl (by rw [hml]; rfl) (Steps.refl _) (argsL := [(.ref b85)]) (rest := []) (lenOf pd__40_Ljava_47_lang_47_String_59__41_V rfl) rfl (by show 2 * 0 + _ ≤ _; exact Nat.le_of_eq rfl) (hb hby at_178) (fun _ _ => ⟨rfl, e245, (by decide : (((((((((((((((0 + 1) + 1) + 1) + 1) + 1) + 1) + 1) + 1) + 1) + 1) + 2) + 0) + 0) + 0) + 0) + 0 ≤ _), (by decide : (((((((((((((((0 + 4) + 1) + 1) + 4) + 2) + 2) + 4) + 1) + 1) + 7) + 45058) + 0) + 0) + 0) + 0) + 0 ≤ _)⟩)
    dsimp only [Pt.U, Pt.locs, Pt.cells, Pt.slots] at X247 l247 y247 z247 st247 hQ247
    subst l247 y247 z247
    obtain ⟨rfl, Nq247, Kq247, P247_0, P247_1⟩ := hQ247
    have Old0_248 := Old0_233.keep Kq247 (allS ge147 all0)
    have A1_249 := A1_234.keep Kq247
    have Vb8_250 := Vb8_235.keep Kq247 (ninS ne142 nin0)
    have A32_251 := A32_236.keep Kq247
    have Vb43_252 := Vb43_237.keep Kq247 (ninS ne144 nin0)
    have A85_253 := A85_238.keep Kq247
    have Vb100_254 := Vb100_239.keep Kq247 (ninS ne146 nin0)
    have A140_255 := A140_240.keep Kq247
    have Zp256 := Nat.le_trans Zp241 Kq247.1
    have Np257 := Fr.app Np246 Nq247
    refine Go.via st247 ?_
    show Go p.tables e below s _ _ _ (T247.setTop (mkF m 181 #[.val (.int p1), .val (.int p2), .val (.int p3), .val (.int p4), .val (.int (2 : Int32)), .val (.ref b1), .val (.ref b32), .val (.ref b85), .val (.ref b140), .val (.long (((0 : Int64) + (1 : Int64)) + (1 : Int64))), .second, .val (.ref b1), .unset] []))
    refine Go.on (fun t k => XS.aload X247.here hx rfl (hb hby at_181) rfl rfl k) ?_
    show Go p.tables e below s _ _ _ (T247.setTop (mkF m 183 #[.val (.int p1), .val (.int p2), .val (.int p3), .val (.int p4), .val (.int (2 : Int32)), .val (.ref b1), .val (.ref b32), .val (.ref b85), .val (.ref b140), .val (.long (((0 : Int64) + (1 : Int64)) + (1 : Int64))), .second, .val (.ref b1), .unset] [(.ref b140)]))
    obtain ⟨cq258, kq258, q258a, q258b, q258c⟩ := isOf hZ rfl A140_255
    obtain ⟨_, _, ⟨T258, L258, k258, n258⟩, -, X258, ⟨Lc258, hQ258, l258, y258, z258⟩, st258⟩ := X247.virtualBack hx (y := (⟨"com/example/loomport/loomport/loadgen/Tally", "errors", "()J"⟩ : MethodName)) (z := (⟨"com/example/loomport/loomport/loadgen/Tally", "errors", "()J"⟩ : MethodName)) hown (mvT hZ (hw _ (List.mem_of_getElem? (i := 62) rfl))) (mvT hZ (hw _ (List.mem_of_getElem? (i := 63) rfl))) (notFace_of_selects (args := #[]) (mvT hZ (hw _ (List.mem_of_getElem? (i := 65) rfl)))) (mvT hZ (hw _ (List.mem_of_getElem? (i := 65) rfl))) (mvT hZ (hw _ (List.mem_of_getElem? (i := 64) rfl))) (by decide) (backOf (W := 0) (rm12 l Z a0 hw [] b140 ((((0 : Int64) + (1 : Int64)) + (1 : Int64)) + (1 : Int64)) T247.heap n0 Zp256 P247_0) hZ (hw _ (List.mem_of_getElem? (i := 66) rfl)) (hw _ (List.mem_of_getElem? (i := 32) rfl)) (by decide) (by decide)) q258a q258c (g := (mkF m 183 #[.val (.int p1), .val (.int p2), .val (.int p3), .val (.int p4), .val (.int (2 : Int32)), .val (.ref b1), .val (.ref b32), .val (.ref b85), .val (.ref b140), .val (.long (((0 : Int64) + (1 : Int64)) + (1 : Int64))), .second, .val (.ref b1), .unset] [(.ref b140)])) rfl (by rw [hml]; rfl) (Steps.refl _) (argsL := []) (rest := []) (lenOf pd__40__41_J rfl) rfl (by show 2 * 0 + _ ≤ _; exact Nat.le_of_eq rfl) (hb hby at_183) (fun _ _ => ⟨rfl, rfl, (by decide : ((((((((((((((((0 + 1) + 1) + 1) + 1) + 1) + 1) + 1) + 1) + 1) + 1) + 2) + 0) + 0) + 0) + 0) + 0) + 0 ≤ _), (by decide : ((((((((((((((((0 + 4) + 1) + 1) + 4) + 2) + 2) + 4) + 1) + 1) + 7) + 45058) + 0) + 0) + 0) + 0) + 0) + 0 ≤ _)⟩)
    dsimp only [Pt.U, Pt.locs, Pt.cells, Pt.slots] at X258 l258 y258 z258 st258 hQ258
    subst l258 y258 z258
    obtain ⟨rfl, Nq258, e258⟩ := hQ258
    have Np259 := Fr.app Np257 Nq258
    refine Go.via st258 ?_
    show Go p.tables e below s _ _ _ (T258.setTop (mkF m 186 #[.val (.int p1), .val (.int p2), .val (.int p3), .val (.int p4), .val (.int (2 : Int32)), .val (.ref b1), .val (.ref b32), .val (.ref b85), .val (.ref b140), .val (.long (((0 : Int64) + (1 : Int64)) + (1 : Int64))), .second, .val (.ref b1), .unset] [(.long ((((0 : Int64) + (1 : Int64)) + (1 : Int64)) + (1 : Int64)))]))
    refine Go.on (fun t k => XS.iload X258.here hx rfl (hb hby at_186) rfl k) ?_
    show Go p.tables e below s _ _ _ (T258.setTop (mkF m 188 #[.val (.int p1), .val (.int p2), .val (.int p3), .val (.int p4), .val (.int (2 : Int32)), .val (.ref b1), .val (.ref b32), .val (.ref b85), .val (.ref b140), .val (.long (((0 : Int64) + (1 : Int64)) + (1 : Int64))), .second, .val (.ref b1), .unset] [(.int (2 : Int32)), (.long ((((0 : Int64) + (1 : Int64)) + (1 : Int64)) + (1 : Int64)))]))
    refine Go.on (fun t k => XS.iconst X258.here hx rfl (hb hby at_188) k) ?_
    show Go p.tables e below s _ _ _ (T258.setTop (mkF m 189 #[.val (.int p1), .val (.int p2), .val (.int p3), .val (.int p4), .val (.int (2 : Int32)), .val (.ref b1), .val (.ref b32), .val (.ref b85), .val (.ref b140), .val (.long (((0 : Int64) + (1 : Int64)) + (1 : Int64))), .second, .val (.ref b1), .unset] [(.int (1 : Int32)), (.int (2 : Int32)), (.long ((((0 : Int64) + (1 : Int64)) + (1 : Int64)) + (1 : Int64)))]))
    refine Go.on (fun t k => XS.iadd X258.here hx rfl (hb hby at_189) rfl k) ?_
    show Go p.tables e below s _ _ _ (T258.setTop (mkF m 190 #[.val (.int p1), .val (.int p2), .val (.int p3), .val (.int p4), .val (.int (2 : Int32)), .val (.ref b1), .val (.ref b32), .val (.ref b85), .val (.ref b140), .val (.long (((0 : Int64) + (1 : Int64)) + (1 : Int64))), .second, .val (.ref b1), .unset] [(.int (3 : Int32)), (.long ((((0 : Int64) + (1 : Int64)) + (1 : Int64)) + (1 : Int64)))]))
    refine Go.on (fun t k => XS.i2l X258.here hx rfl (hb hby at_190) rfl k) ?_
    show Go p.tables e below s _ _ _ (T258.setTop (mkF m 191 #[.val (.int p1), .val (.int p2), .val (.int p3), .val (.int p4), .val (.int (2 : Int32)), .val (.ref b1), .val (.ref b32), .val (.ref b85), .val (.ref b140), .val (.long (((0 : Int64) + (1 : Int64)) + (1 : Int64))), .second, .val (.ref b1), .unset] [(.long ((3 : Int32).toInt64)), (.long ((((0 : Int64) + (1 : Int64)) + (1 : Int64)) + (1 : Int64)))]))
    refine Go.on (fun t k => XS.lcmp X258.here hx rfl (hb hby at_191) rfl k) ?_
    show Go p.tables e below s _ _ _ (T258.setTop (mkF m 192 #[.val (.int p1), .val (.int p2), .val (.int p3), .val (.int p4), .val (.int (2 : Int32)), .val (.ref b1), .val (.ref b32), .val (.ref b85), .val (.ref b140), .val (.long (((0 : Int64) + (1 : Int64)) + (1 : Int64))), .second, .val (.ref b1), .unset] [(.int (lcmpW ((((0 : Int64) + (1 : Int64)) + (1 : Int64)) + (1 : Int64)) ((3 : Int32).toInt64)))]))
    refine Go.on (fun t k => XS.ifYes X258.here hx rfl (pc0 := 192) (pc' := 197) rfl (hb hby at_192) rfl ((if0 _ _).trans (teq (by decide : (lcmpW ((((0 : Int64) + (1 : Int64)) + (1 : Int64)) + (1 : Int64)) ((3 : Int32).toInt64)) = (0 : Int32))).1) (by decide) (by decide) k) ?_
    show Go p.tables e below s _ _ _ (T258.setTop (mkF m 197 #[.val (.int p1), .val (.int p2), .val (.int p3), .val (.int p4), .val (.int (2 : Int32)), .val (.ref b1), .val (.ref b32), .val (.ref b85), .val (.ref b140), .val (.long (((0 : Int64) + (1 : Int64)) + (1 : Int64))), .second, .val (.ref b1), .unset] []))
    refine Go.on (fun t k => XS.iload X258.here hx rfl (hb hby at_197) rfl k) ?_
    show Go p.tables e below s _ _ _ (T258.setTop (mkF m 199 #[.val (.int p1), .val (.int p2), .val (.int p3), .val (.int p4), .val (.int (2 : Int32)), .val (.ref b1), .val (.ref b32), .val (.ref b85), .val (.ref b140), .val (.long (((0 : Int64) + (1 : Int64)) + (1 : Int64))), .second, .val (.ref b1), .unset] [(.int (2 : Int32))]))
    refine Go.on (fun t k => XS.ifYes X258.here hx rfl (pc0 := 199) (pc' := 207) rfl (hb hby at_199) rfl ((if0 _ _).trans (feq (by decide : ¬ ((2 : Int32) = (0 : Int32)))).2) (by decide) (by decide) k) ?_
    show Go p.tables e below s _ _ _ (T258.setTop (mkF m 207 #[.val (.int p1), .val (.int p2), .val (.int p3), .val (.int p4), .val (.int (2 : Int32)), .val (.ref b1), .val (.ref b32), .val (.ref b85), .val (.ref b140), .val (.long (((0 : Int64) + (1 : Int64)) + (1 : Int64))), .second, .val (.ref b1), .unset] []))
    refine Go.on (fun t k => XS.aload X258.here hx rfl (hb hby at_207) rfl rfl k) ?_
    show Go p.tables e below s _ _ _ (T258.setTop (mkF m 209 #[.val (.int p1), .val (.int p2), .val (.int p3), .val (.int p4), .val (.int (2 : Int32)), .val (.ref b1), .val (.ref b32), .val (.ref b85), .val (.ref b140), .val (.long (((0 : Int64) + (1 : Int64)) + (1 : Int64))), .second, .val (.ref b1), .unset] [(.ref b1)]))
    refine Go.on (fun t k => XS.astore X258.here hx rfl (hb hby at_209) rfl rfl (l' := #[.val (.int p1), .val (.int p2), .val (.int p3), .val (.int p4), .val (.int (2 : Int32)), .val (.ref b1), .val (.ref b32), .val (.ref b85), .val (.ref b140), .val (.long (((0 : Int64) + (1 : Int64)) + (1 : Int64))), .second, .val (.ref b1), .val (.ref b1)]) rfl k) ?_
    show Go p.tables e below s _ _ _ (T258.setTop (mkF m 211 #[.val (.int p1), .val (.int p2), .val (.int p3), .val (.int p4), .val (.int (2 : Int32)), .val (.ref b1), .val (.ref b32), .val (.ref b85), .val (.ref b140), .val (.long (((0 : Int64) + (1 : Int64)) + (1 : Int64))), .second, .val (.ref b1), .val (.ref b1)] []))
    refine Go.on (fun t k => XS.aload X258.here hx rfl (hb hby at_211) rfl rfl k) ?_
    show Go p.tables e below s _ _ _ (T258.setTop (mkF m 213 #[.val (.int p1), .val (.int p2), .val (.int p3), .val (.int p4), .val (.int (2 : Int32)), .val (.ref b1), .val (.ref b32), .val (.ref b85), .val (.ref b140), .val (.long (((0 : Int64) + (1 : Int64)) + (1 : Int64))), .second, .val (.ref b1), .val (.ref b1)] [(.ref b140)]))
    obtain ⟨cq260, kq260, q260a, q260b, q260c⟩ := isOf hZ e258 A140_255
    obtain ⟨_, _, ⟨T260, L260, k260, n260⟩, -, X260, ⟨Lc260, hQ260, l260, y260, z260⟩, st260⟩ := X258.virtualBack hx (y := (⟨"com/example/loomport/loomport/loadgen/Tally", "firstError", "()Ljava/lang/String;"⟩ : MethodName)) (z := (⟨"com/example/loomport/loomport/loadgen/Tally", "firstError", "()Ljava/lang/String;"⟩ : MethodName)) hown (mvT hZ (hw _ (List.mem_of_getElem? (i := 69) rfl))) (mvT hZ (hw _ (List.mem_of_getElem? (i := 70) rfl))) (notFace_of_selects (args := #[]) (mvT hZ (hw _ (List.mem_of_getElem? (i := 72) rfl)))) (mvT hZ (hw _ (List.mem_of_getElem? (i := 72) rfl))) (mvT hZ (hw _ (List.mem_of_getElem? (i := 71) rfl))) (by decide) (backOf (W := 0) (rm13s l Z a0 hw [] b140 b1 T247.heap n0 Zp256 P247_1) hZ (hw _ (List.mem_of_getElem? (i := 73) rfl)) (hw _ (List.mem_of_getElem? (i := 32) rfl)) (by decide) (by decide)) q260a q260c (g := (mkF m 213 #[.val (.int p1), .val (.int p2), .val (.int p3), .val (.int p4), .val (.int (2 : Int32)), .val (.ref b1), .val (.ref b32), .val (.ref b85), .val (.ref b140), .val (.long (((0 : Int64) + (1 : Int64)) + (1 : Int64))), .second, .val (.ref b1), .val (.ref b1)] [(.ref b140)])) rfl (by rw [hml]; rfl) (Steps.refl _) (argsL := []) (rest := []) (lenOf pd__40__41_Ljava_47_lang_47_String_59_ rfl) rfl (by show 2 * 0 + _ ≤ _; exact Nat.le_of_eq rfl) (hb hby at_213) (fun _ _ => ⟨rfl, e258, (by decide : (((((((((((((((((0 + 1) + 1) + 1) + 1) + 1) + 1) + 1) + 1) + 1) + 1) + 2) + 0) + 0) + 0) + 0) + 0) + 0) + 0 ≤ _), (by decide : (((((((((((((((((0 + 4) + 1) + 1) + 4) + 2) + 2) + 4) + 1) + 1) + 7) + 45058) + 0) + 0) + 0) + 0) + 0) + 0) + 0 ≤ _)⟩)
    dsimp only [Pt.U, Pt.locs, Pt.cells, Pt.slots] at X260 l260 y260 z260 st260 hQ260
    subst l260 y260 z260
    obtain ⟨rfl, Nq260, e260⟩ := hQ260
    have Np261 := Fr.app Np259 Nq260
    refine Go.via st260 ?_
    show Go p.tables e below s _ _ _ (T260.setTop (mkF m 216 #[.val (.int p1), .val (.int p2), .val (.int p3), .val (.int p4), .val (.int (2 : Int32)), .val (.ref b1), .val (.ref b32), .val (.ref b85), .val (.ref b140), .val (.long (((0 : Int64) + (1 : Int64)) + (1 : Int64))), .second, .val (.ref b1), .val (.ref b1)] [(.ref b1)]))
    refine Go.on (fun t k => XS.aload X260.here hx rfl (hb hby at_216) rfl rfl k) ?_
    show Go p.tables e below s _ _ _ (T260.setTop (mkF m 218 #[.val (.int p1), .val (.int p2), .val (.int p3), .val (.int p4), .val (.int (2 : Int32)), .val (.ref b1), .val (.ref b32), .val (.ref b85), .val (.ref b140), .val (.long (((0 : Int64) + (1 : Int64)) + (1 : Int64))), .second, .val (.ref b1), .val (.ref b1)] [(.ref b1), (.ref b1)]))
    refine Go.on (fun t k => Jvm.RoadKit.acmp (g := (mkF m 218 #[.val (.int p1), .val (.int p2), .val (.int p3), .val (.int p4), .val (.int (2 : Int32)), .val (.ref b1), .val (.ref b32), .val (.ref b85), .val (.ref b140), .val (.long (((0 : Int64) + (1 : Int64)) + (1 : Int64))), .second, .val (.ref b1), .val (.ref b1)] [(.ref b1), (.ref b1)])) X260 hx rfl rfl rfl (pc0 := 218) (pc' := 221) (same := true) rfl (hb hby at_218) rfl (decide_eq_true rfl) (by decide) (by decide) k) ?_
    show Go p.tables e below s _ _ _ (T260.setTop (mkF m 221 #[.val (.int p1), .val (.int p2), .val (.int p3), .val (.int p4), .val (.int (2 : Int32)), .val (.ref b1), .val (.ref b32), .val (.ref b85), .val (.ref b140), .val (.long (((0 : Int64) + (1 : Int64)) + (1 : Int64))), .second, .val (.ref b1), .val (.ref b1)] []))
    refine Go.on (fun t k => XS.iconst X260.here hx rfl (hb hby at_221) k) ?_
    show Go p.tables e below s _ _ _ (T260.setTop (mkF m 222 #[.val (.int p1), .val (.int p2), .val (.int p3), .val (.int p4), .val (.int (2 : Int32)), .val (.ref b1), .val (.ref b32), .val (.ref b85), .val (.ref b140), .val (.long (((0 : Int64) + (1 : Int64)) + (1 : Int64))), .second, .val (.ref b1), .val (.ref b1)] [(.int (1 : Int32))]))
    refine Go.on (fun t k => XS.goto X260.here hx rfl (pc0 := 222) (pc' := 226) rfl (hb hby at_222) (by decide) (by decide) k) ?_
    show Go p.tables e below s _ _ _ (T260.setTop (mkF m 226 #[.val (.int p1), .val (.int p2), .val (.int p3), .val (.int p4), .val (.int (2 : Int32)), .val (.ref b1), .val (.ref b32), .val (.ref b85), .val (.ref b140), .val (.long (((0 : Int64) + (1 : Int64)) + (1 : Int64))), .second, .val (.ref b1), .val (.ref b1)] [(.int (1 : Int32))]))
    refine Go.retN X260 hx hlk (t := .boolean) Bd.returns (by simp) (hb hby at_226) (by decide) (by decide) e260 ?_
    exact ⟨rfl, Np261⟩
  · rw [hk]
    show Go p.tables e below s _ _ _ (T160.setTop (mkF m 89 #[.val (.int p1), .val (.int p2), .val (.int p3), .val (.int p4), .val (.int (3 : Int32)), .val (.ref b1), .val (.ref b32), .val (.ref b85), .val (.ref b140), .unset, .unset, .unset, .unset] []))
    refine Go.on (fun t k => XS.iload X160.here hx rfl (hb hby at_89) rfl k) ?_
    show Go p.tables e below s _ _ _ (T160.setTop (mkF m 91 #[.val (.int p1), .val (.int p2), .val (.int p3), .val (.int p4), .val (.int (3 : Int32)), .val (.ref b1), .val (.ref b32), .val (.ref b85), .val (.ref b140), .unset, .unset, .unset, .unset] [(.int (3 : Int32))]))
    refine Go.on (fun t k => XS.iconst X160.here hx rfl (hb hby at_91) k) ?_
    show Go p.tables e below s _ _ _ (T160.setTop (mkF m 92 #[.val (.int p1), .val (.int p2), .val (.int p3), .val (.int p4), .val (.int (3 : Int32)), .val (.ref b1), .val (.ref b32), .val (.ref b85), .val (.ref b140), .unset, .unset, .unset, .unset] [(.int (1 : Int32)), (.int (3 : Int32))]))
    refine Go.on (fun t k => XS.icmpNo X160.here hx rfl (hb hby at_92) rfl (flt (by decide : ¬ ((3 : Int32) < (1 : Int32)))).1 k) ?_
    show Go p.tables e below s _ _ _ (T160.setTop (mkF m 95 #[.val (.int p1), .val (.int p2), .val (.int p3), .val (.int p4), .val (.int (3 : Int32)), .val (.ref b1), .val (.ref b32), .val (.ref b85), .val (.ref b140), .unset, .unset, .unset, .unset] []))
    refine Go.on (fun t k => XS.aload X160.here hx rfl (hb hby at_95) rfl rfl k) ?_
    show Go p.tables e below s _ _ _ (T160.setTop (mkF m 97 #[.val (.int p1), .val (.int p2), .val (.int p3), .val (.int p4), .val (.int (3 : Int32)), .val (.ref b1), .val (.ref b32), .val (.ref b85), .val (.ref b140), .unset, .unset, .unset, .unset] [(.ref b140)]))
    refine Go.on (fun t k => XS.aload X160.here hx rfl (hb hby at_97) rfl rfl k) ?_
    show Go p.tables e below s _ _ _ (T160.setTop (mkF m 99 #[.val (.int p1), .val (.int p2), .val (.int p3), .val (.int p4), .val (.int (3 : Int32)), .val (.ref b1), .val (.ref b32), .val (.ref b85), .val (.ref b140), .unset, .unset, .unset, .unset] [(.ref b1), (.ref b140)]))
    obtain ⟨cq262, kq262, q262a, q262b, q262c⟩ := isOf hZ rfl A140_168
    obtain ⟨_, _, ⟨T262, L262, k262, n262⟩, -, X262, ⟨Lc262, hQ262, l262, y262, z262⟩, st262⟩ := X160.virtualBack hx (y := (⟨"com/example/loomport/loomport/loadgen/Tally", "error", "(Ljava/lang/String;)V"⟩ : MethodName)) (z := (⟨"com/example/loomport/loomport/loadgen/Tally", "error", "(Ljava/lang/String;)V"⟩ : MethodName)) hown (mvT hZ (hw _ (List.mem_of_getElem? (i := 76) rfl))) (mvT hZ (hw _ (List.mem_of_getElem? (i := 77) rfl))) (notFace_of_selects (args := #[]) (mvT hZ (hw _ (List.mem_of_getElem? (i := 79) rfl)))) (mvT hZ (hw _ (List.mem_of_getElem? (i := 79) rfl))) (mvT hZ (hw _ (List.mem_of_getElem? (i := 78) rfl))) (by decide) (backOf (W := 0) (rm14n l Z a0 hw [] b140 b1 (0 : Int64) T160.heap n0 Zp169 A140_168 ge147 P160_0 P160_1) hZ (hw _ (List.mem_of_getElem? (i := 80) rfl)) (hw _ (List.mem_of_getElem? (i := 32) rfl)) (by decide) (by decide)) q262a q262c (g := (mkF m 99 #[.val (.int p1), .val (.int p2), .val (.int p3), .val (.int p4), .val (.int (3 : Int32)), .val (.ref b1), .val (.ref b32), .val (.ref b85), .val (.ref b140), .unset, .unset, .unset, .unset] [(.ref b1), (.ref b140)])) rfl (by rw [hml]; rfl) (Steps.refl _) (argsL := [(.ref b1)]) (rest := []) (lenOf pd__40_Ljava_47_lang_47_String_59__41_V rfl) rfl (by show 2 * 0 + _ ≤ _; exact Nat.le_of_eq rfl) (hb hby at_99) (fun _ _ => ⟨rfl, rfl, (by decide : (((((((((((0 + 1) + 1) + 1) + 1) + 1) + 1) + 1) + 1) + 1) + 1) + 2) + 0 ≤ _), (by decide : (((((((((((0 + 4) + 1) + 1) + 4) + 2) + 2) + 4) + 1) + 1) + 7) + 45058) + 0 ≤ _)⟩)
    dsimp only [Pt.U, Pt.locs, Pt.cells, Pt.slots] at X262 l262 y262 z262 st262 hQ262
    subst l262 y262 z262
    obtain ⟨rfl, Nq262, Kq262, P262_0, P262_1⟩ := hQ262
    have Old0_263 := Old0_161.keep Kq262 (allS ge147 all0)
    have A1_264 := A1_162.keep Kq262
    have Vb8_265 := Vb8_163.keep Kq262 (ninS ne142 nin0)
    have A32_266 := A32_164.keep Kq262
    have Vb43_267 := Vb43_165.keep Kq262 (ninS ne144 nin0)
    have A85_268 := A85_166.keep Kq262
    have Vb100_269 := Vb100_167.keep Kq262 (ninS ne146 nin0)
    have A140_270 := A140_168.keep Kq262
    have Zp271 := Nat.le_trans Zp169 Kq262.1
    have Np272 := Fr.app Np170 Nq262
    refine Go.via st262 ?_
    show Go p.tables e below s _ _ _ (T262.setTop (mkF m 102 #[.val (.int p1), .val (.int p2), .val (.int p3), .val (.int p4), .val (.int (3 : Int32)), .val (.ref b1), .val (.ref b32), .val (.ref b85), .val (.ref b140), .unset, .unset, .unset, .unset] []))
    refine Go.on (fun t k => XS.iload X262.here hx rfl (hb hby at_102) rfl k) ?_
    show Go p.tables e below s _ _ _ (T262.setTop (mkF m 104 #[.val (.int p1), .val (.int p2), .val (.int p3), .val (.int p4), .val (.int (3 : Int32)), .val (.ref b1), .val (.ref b32), .val (.ref b85), .val (.ref b140), .unset, .unset, .unset, .unset] [(.int (3 : Int32))]))
    refine Go.on (fun t k => XS.iconst X262.here hx rfl (hb hby at_104) k) ?_
    show Go p.tables e below s _ _ _ (T262.setTop (mkF m 105 #[.val (.int p1), .val (.int p2), .val (.int p3), .val (.int p4), .val (.int (3 : Int32)), .val (.ref b1), .val (.ref b32), .val (.ref b85), .val (.ref b140), .unset, .unset, .unset, .unset] [(.int (2 : Int32)), (.int (3 : Int32))]))
    refine Go.on (fun t k => XS.icmpNo X262.here hx rfl (hb hby at_105) rfl (flt (by decide : ¬ ((3 : Int32) < (2 : Int32)))).1 k) ?_
    show Go p.tables e below s _ _ _ (T262.setTop (mkF m 108 #[.val (.int p1), .val (.int p2), .val (.int p3), .val (.int p4), .val (.int (3 : Int32)), .val (.ref b1), .val (.ref b32), .val (.ref b85), .val (.ref b140), .unset, .unset, .unset, .unset] []))
    refine Go.on (fun t k => XS.aload X262.here hx rfl (hb hby at_108) rfl rfl k) ?_
    show Go p.tables e below s _ _ _ (T262.setTop (mkF m 110 #[.val (.int p1), .val (.int p2), .val (.int p3), .val (.int p4), .val (.int (3 : Int32)), .val (.ref b1), .val (.ref b32), .val (.ref b85), .val (.ref b140), .unset, .unset, .unset, .unset] [(.ref b140)]))
    refine Go.on (fun t k => XS.aload X262.here hx rfl (hb hby at_110) rfl rfl k) ?_
    show Go p.tables e below s _ _ _ (T262.setTop (mkF m 112 #[.val (.int p1), .val (.int p2), .val (.int p3), .val (.int p4), .val (.int (3 : Int32)), .val (.ref b1), .val (.ref b32), .val (.ref b85), .val (.ref b140), .unset, .unset, .unset, .unset] [(.ref b32), (.ref b140)]))
    obtain ⟨cq273, kq273, q273a, q273b, q273c⟩ := isOf hZ rfl A140_270
    obtain ⟨_, _, ⟨T273, L273, k273, n273⟩, -, X273, ⟨Lc273, hQ273, l273, y273, z273⟩, st273⟩ := X262.virtualBack hx (y := (⟨"com/example/loomport/loomport/loadgen/Tally", "error", "(Ljava/lang/String;)V"⟩ : MethodName)) (z := (⟨"com/example/loomport/loomport/loadgen/Tally", "error", "(Ljava/lang/String;)V"⟩ : MethodName)) hown (mvT hZ (hw _ (List.mem_of_getElem? (i := 76) rfl))) (mvT hZ (hw _ (List.mem_of_getElem? (i := 77) rfl))) (notFace_of_selects (args := #[]) (mvT hZ (hw _ (List.mem_of_getElem? (i := 79) rfl)))) (mvT hZ (hw _ (List.mem_of_getElem? (i := 79) rfl))) (mvT hZ (hw _ (List.mem_of_getElem? (i := 78) rfl))) (by decide) (backOf (W := 0) (rm14s l Z a0 hw [] b140 b32 ((0 : Int64) + (1 : Int64)) b1 T262.heap n0 Zp271 A140_270 ge147 P262_0 P262_1) hZ (hw _ (List.mem_of_getElem? (i := 80) rfl)) (hw _ (List.mem_of_getElem? (i := 32) rfl)) (by decide) (by decide)) q273a q273c (g := (mkF m 112 #[.val (.int p1), .val (.int p2), .val (.int p3), .val (.int p4), .val (.int (3 : Int32)), .val (.ref b1), .val (.ref b32), .val (.ref b85), .val (.ref b140), .unset, .unset, .unset, .unset] [(.ref b32), (.ref b140)])) rfl (by rw [hml]; rfl) (Steps.refl _) (argsL := [(.ref b32)]) (rest := []) (lenOf pd__40_Ljava_47_lang_47_String_59__41_V rfl) rfl (by show 2 * 0 + _ ≤ _; exact Nat.le_of_eq rfl) (hb hby at_112) (fun _ _ => ⟨rfl, rfl, (by decide : ((((((((((((0 + 1) + 1) + 1) + 1) + 1) + 1) + 1) + 1) + 1) + 1) + 2) + 0) + 0 ≤ _), (by decide : ((((((((((((0 + 4) + 1) + 1) + 4) + 2) + 2) + 4) + 1) + 1) + 7) + 45058) + 0) + 0 ≤ _)⟩)
    dsimp only [Pt.U, Pt.locs, Pt.cells, Pt.slots] at X273 l273 y273 z273 st273 hQ273
    subst l273 y273 z273
    obtain ⟨rfl, Nq273, Kq273, P273_0, P273_1⟩ := hQ273
    have Old0_274 := Old0_263.keep Kq273 (allS ge147 all0)
    have A1_275 := A1_264.keep Kq273
    have Vb8_276 := Vb8_265.keep Kq273 (ninS ne142 nin0)
    have A32_277 := A32_266.keep Kq273
    have Vb43_278 := Vb43_267.keep Kq273 (ninS ne144 nin0)
    have A85_279 := A85_268.keep Kq273
    have Vb100_280 := Vb100_269.keep Kq273 (ninS ne146 nin0)
    have A140_281 := A140_270.keep Kq273
    have Zp282 := Nat.le_trans Zp271 Kq273.1
    have Np283 := Fr.app Np272 Nq273
    refine Go.via st273 ?_
    show Go p.tables e below s _ _ _ (T273.setTop (mkF m 115 #[.val (.int p1), .val (.int p2), .val (.int p3), .val (.int p4), .val (.int (3 : Int32)), .val (.ref b1), .val (.ref b32), .val (.ref b85), .val (.ref b140), .unset, .unset, .unset, .unset] []))
    refine Go.on (fun t k => XS.iload X273.here hx rfl (hb hby at_115) rfl k) ?_
    show Go p.tables e below s _ _ _ (T273.setTop (mkF m 117 #[.val (.int p1), .val (.int p2), .val (.int p3), .val (.int p4), .val (.int (3 : Int32)), .val (.ref b1), .val (.ref b32), .val (.ref b85), .val (.ref b140), .unset, .unset, .unset, .unset] [(.int (3 : Int32))]))
    refine Go.on (fun t k => XS.iconst X273.here hx rfl (hb hby at_117) k) ?_
    show Go p.tables e below s _ _ _ (T273.setTop (mkF m 118 #[.val (.int p1), .val (.int p2), .val (.int p3), .val (.int p4), .val (.int (3 : Int32)), .val (.ref b1), .val (.ref b32), .val (.ref b85), .val (.ref b140), .unset, .unset, .unset, .unset] [(.int (3 : Int32)), (.int (3 : Int32))]))
    refine Go.on (fun t k => XS.icmpNo X273.here hx rfl (hb hby at_118) rfl (flt (by decide : ¬ ((3 : Int32) < (3 : Int32)))).1 k) ?_
    show Go p.tables e below s _ _ _ (T273.setTop (mkF m 121 #[.val (.int p1), .val (.int p2), .val (.int p3), .val (.int p4), .val (.int (3 : Int32)), .val (.ref b1), .val (.ref b32), .val (.ref b85), .val (.ref b140), .unset, .unset, .unset, .unset] []))
    refine Go.on (fun t k => XS.aload X273.here hx rfl (hb hby at_121) rfl rfl k) ?_
    show Go p.tables e below s _ _ _ (T273.setTop (mkF m 123 #[.val (.int p1), .val (.int p2), .val (.int p3), .val (.int p4), .val (.int (3 : Int32)), .val (.ref b1), .val (.ref b32), .val (.ref b85), .val (.ref b140), .unset, .unset, .unset, .unset] [(.ref b140)]))
    refine Go.on (fun t k => XS.aload X273.here hx rfl (hb hby at_123) rfl rfl k) ?_
    show Go p.tables e below s _ _ _ (T273.setTop (mkF m 125 #[.val (.int p1), .val (.int p2), .val (.int p3), .val (.int p4), .val (.int (3 : Int32)), .val (.ref b1), .val (.ref b32), .val (.ref b85), .val (.ref b140), .unset, .unset, .unset, .unset] [(.ref b32), (.ref b140)]))
    obtain ⟨cq284, kq284, q284a, q284b, q284c⟩ := isOf hZ rfl A140_281
    obtain ⟨_, _, ⟨T284, L284, k284, n284⟩, -, X284, ⟨Lc284, hQ284, l284, y284, z284⟩, st284⟩ := X273.virtualBack hx (y := (⟨"com/example/loomport/loomport/loadgen/Tally", "error", "(Ljava/lang/String;)V"⟩ : MethodName)) (z := (⟨"com/example/loomport/loomport/loadgen/Tally", "error", "(Ljava/lang/String;)V"⟩ : MethodName)) hown (mvT hZ (hw _ (List.mem_of_getElem? (i := 76) rfl))) (mvT hZ (hw _ (List.mem_of_getElem? (i := 77) rfl))) (notFace_of_selects (args := #[]) (mvT hZ (hw _ (List.mem_of_getElem? (i := 79) rfl)))) (mvT hZ (hw _ (List.mem_of_getElem? (i := 79) rfl))) (mvT hZ (hw _ (List.mem_of_getElem? (i := 78) rfl))) (by decide) (backOf (W := 0) (rm14s l Z a0 hw [] b140 b32 (((0 : Int64) + (1 : Int64)) + (1 : Int64)) b1 T273.heap n0 Zp282 A140_281 ge147 P273_0 P273_1) hZ (hw _ (List.mem_of_getElem? (i := 80) rfl)) (hw _ (List.mem_of_getElem? (i := 32) rfl)) (by decide) (by decide)) q284a q284c (g := (mkF m 125 #[.val (.int p1), .val (.int p2), .val (.int p3), .val (.int p4), .val (.int (3 : Int32)), .val (.ref b1), .val (.ref b32), .val (.ref b85), .val (.ref b140), .unset, .unset, .unset, .unset] [(.ref b32), (.ref b140)])) rfl (by rw [hml]; rfl) (Steps.refl _) (argsL := [(.ref b32)]) (rest := []) (lenOf pd__40_Ljava_47_lang_47_String_59__41_V rfl) rfl (by show 2 * 0 + _ ≤ _; exact Nat.le_of_eq rfl) (hb hby at_125) (fun _ _ => ⟨rfl, rfl, (by decide : (((((((((((((0 + 1) + 1) + 1) + 1) + 1) + 1) + 1) + 1) + 1) + 1) + 2) + 0) + 0) + 0 ≤ _), (by decide : (((((((((((((0 + 4) + 1) + 1) + 4) + 2) + 2) + 4) + 1) + 1) + 7) + 45058) + 0) + 0) + 0 ≤ _)⟩)
    dsimp only [Pt.U, Pt.locs, Pt.cells, Pt.slots] at X284 l284 y284 z284 st284 hQ284
    subst l284 y284 z284
    obtain ⟨rfl, Nq284, Kq284, P284_0, P284_1⟩ := hQ284
    have Old0_285 := Old0_274.keep Kq284 (allS ge147 all0)
    have A1_286 := A1_275.keep Kq284
    have Vb8_287 := Vb8_276.keep Kq284 (ninS ne142 nin0)
    have A32_288 := A32_277.keep Kq284
    have Vb43_289 := Vb43_278.keep Kq284 (ninS ne144 nin0)
    have A85_290 := A85_279.keep Kq284
    have Vb100_291 := Vb100_280.keep Kq284 (ninS ne146 nin0)
    have A140_292 := A140_281.keep Kq284
    have Zp293 := Nat.le_trans Zp282 Kq284.1
    have Np294 := Fr.app Np283 Nq284
    refine Go.via st284 ?_
    show Go p.tables e below s _ _ _ (T284.setTop (mkF m 128 #[.val (.int p1), .val (.int p2), .val (.int p3), .val (.int p4), .val (.int (3 : Int32)), .val (.ref b1), .val (.ref b32), .val (.ref b85), .val (.ref b140), .unset, .unset, .unset, .unset] []))
    refine Go.on (fun t k => XS.aload X284.here hx rfl (hb hby at_128) rfl rfl k) ?_
    show Go p.tables e below s _ _ _ (T284.setTop (mkF m 130 #[.val (.int p1), .val (.int p2), .val (.int p3), .val (.int p4), .val (.int (3 : Int32)), .val (.ref b1), .val (.ref b32), .val (.ref b85), .val (.ref b140), .unset, .unset, .unset, .unset] [(.ref b140)]))
    obtain ⟨cq295, kq295, q295a, q295b, q295c⟩ := isOf hZ rfl A140_292
    obtain ⟨_, _, ⟨T295, L295, k295, n295⟩, -, X295, ⟨Lc295, hQ295, l295, y295, z295⟩, st295⟩ := X284.virtualBack hx (y := (⟨"com/example/loomport/loomport/loadgen/Tally", "errors", "()J"⟩ : MethodName)) (z := (⟨"com/example/loomport/loomport/loadgen/Tally", "errors", "()J"⟩ : MethodName)) hown (mvT hZ (hw _ (List.mem_of_getElem? (i := 62) rfl))) (mvT hZ (hw _ (List.mem_of_getElem? (i := 63) rfl))) (notFace_of_selects (args := #[]) (mvT hZ (hw _ (List.mem_of_getElem? (i := 65) rfl)))) (mvT hZ (hw _ (List.mem_of_getElem? (i := 65) rfl))) (mvT hZ (hw _ (List.mem_of_getElem? (i := 64) rfl))) (by decide) (backOf (W := 0) (rm12 l Z a0 hw [] b140 ((((0 : Int64) + (1 : Int64)) + (1 : Int64)) + (1 : Int64)) T284.heap n0 Zp293 P284_0) hZ (hw _ (List.mem_of_getElem? (i := 66) rfl)) (hw _ (List.mem_of_getElem? (i := 32) rfl)) (by decide) (by decide)) q295a q295c (g := (mkF m 130 #[.val (.int p1), .val (.int p2), .val (.int p3), .val (.int p4), .val (.int (3 : Int32)), .val (.ref b1), .val (.ref b32), .val (.ref b85), .val (.ref b140), .unset, .unset, .unset, .unset] [(.ref b140)])) rfl (by rw [hml]; rfl) (Steps.refl _) (argsL := []) (rest := []) (lenOf pd__40__41_J rfl) rfl (by show 2 * 0 + _ ≤ _; exact Nat.le_of_eq rfl) (hb hby at_130) (fun _ _ => ⟨rfl, rfl, (by decide : ((((((((((((((0 + 1) + 1) + 1) + 1) + 1) + 1) + 1) + 1) + 1) + 1) + 2) + 0) + 0) + 0) + 0 ≤ _), (by decide : ((((((((((((((0 + 4) + 1) + 1) + 4) + 2) + 2) + 4) + 1) + 1) + 7) + 45058) + 0) + 0) + 0) + 0 ≤ _)⟩)
    dsimp only [Pt.U, Pt.locs, Pt.cells, Pt.slots] at X295 l295 y295 z295 st295 hQ295
    subst l295 y295 z295
    obtain ⟨rfl, Nq295, e295⟩ := hQ295
    have Np296 := Fr.app Np294 Nq295
    refine Go.via st295 ?_
    show Go p.tables e below s _ _ _ (T295.setTop (mkF m 133 #[.val (.int p1), .val (.int p2), .val (.int p3), .val (.int p4), .val (.int (3 : Int32)), .val (.ref b1), .val (.ref b32), .val (.ref b85), .val (.ref b140), .unset, .unset, .unset, .unset] [(.long ((((0 : Int64) + (1 : Int64)) + (1 : Int64)) + (1 : Int64)))]))
    refine Go.on (fun t k => XS.lstore X295.here hx rfl (hb hby at_133) rfl (l' := #[.val (.int p1), .val (.int p2), .val (.int p3), .val (.int p4), .val (.int (3 : Int32)), .val (.ref b1), .val (.ref b32), .val (.ref b85), .val (.ref b140), .val (.long ((((0 : Int64) + (1 : Int64)) + (1 : Int64)) + (1 : Int64))), .second, .unset, .unset]) rfl k) ?_
    show Go p.tables e below s _ _ _ (T295.setTop (mkF m 135 #[.val (.int p1), .val (.int p2), .val (.int p3), .val (.int p4), .val (.int (3 : Int32)), .val (.ref b1), .val (.ref b32), .val (.ref b85), .val (.ref b140), .val (.long ((((0 : Int64) + (1 : Int64)) + (1 : Int64)) + (1 : Int64))), .second, .unset, .unset] []))
    refine Go.on (fun t k => XS.aload X295.here hx rfl (hb hby at_135) rfl rfl k) ?_
    show Go p.tables e below s _ _ _ (T295.setTop (mkF m 137 #[.val (.int p1), .val (.int p2), .val (.int p3), .val (.int p4), .val (.int (3 : Int32)), .val (.ref b1), .val (.ref b32), .val (.ref b85), .val (.ref b140), .val (.long ((((0 : Int64) + (1 : Int64)) + (1 : Int64)) + (1 : Int64))), .second, .unset, .unset] [(.ref b140)]))
    obtain ⟨cq297, kq297, q297a, q297b, q297c⟩ := isOf hZ e295 A140_292
    obtain ⟨_, _, ⟨T297, L297, k297, n297⟩, -, X297, ⟨Lc297, hQ297, l297, y297, z297⟩, st297⟩ := X295.virtualBack hx (y := (⟨"com/example/loomport/loomport/loadgen/Tally", "firstError", "()Ljava/lang/String;"⟩ : MethodName)) (z := (⟨"com/example/loomport/loomport/loadgen/Tally", "firstError", "()Ljava/lang/String;"⟩ : MethodName)) hown (mvT hZ (hw _ (List.mem_of_getElem? (i := 69) rfl))) (mvT hZ (hw _ (List.mem_of_getElem? (i := 70) rfl))) (notFace_of_selects (args := #[]) (mvT hZ (hw _ (List.mem_of_getElem? (i := 72) rfl)))) (mvT hZ (hw _ (List.mem_of_getElem? (i := 72) rfl))) (mvT hZ (hw _ (List.mem_of_getElem? (i := 71) rfl))) (by decide) (backOf (W := 0) (rm13s l Z a0 hw [] b140 b1 T284.heap n0 Zp293 P284_1) hZ (hw _ (List.mem_of_getElem? (i := 73) rfl)) (hw _ (List.mem_of_getElem? (i := 32) rfl)) (by decide) (by decide)) q297a q297c (g := (mkF m 137 #[.val (.int p1), .val (.int p2), .val (.int p3), .val (.int p4), .val (.int (3 : Int32)), .val (.ref b1), .val (.ref b32), .val (.ref b85), .val (.ref b140), .val (.long ((((0 : Int64) + (1 : Int64)) + (1 : Int64)) + (1 : Int64))), .second, .unset, .unset] [(.ref b140)])) rfl (by rw [hml]; rfl) (Steps.refl _) (argsL := []) (rest := []) (lenOf pd__40__41_Ljava_47_lang_47_String_59_ rfl) rfl (by show 2 * 0 + _ ≤ _; exact Nat.le_of_eq rfl) (hb hby at_137) (fun _ _ => ⟨rfl, e295, (by decide : (((((((((((((((0 + 1) + 1) + 1) + 1) + 1) + 1) + 1) + 1) + 1) + 1) + 2) + 0) + 0) + 0) + 0) + 0 ≤ _), (by decide : (((((((((((((((0 + 4) + 1) + 1) + 4) + 2) + 2) + 4) + 1) + 1) + 7) + 45058) + 0) + 0) + 0) + 0) + 0 ≤ _)⟩)
    dsimp only [Pt.U, Pt.locs, Pt.cells, Pt.slots] at X297 l297 y297 z297 st297 hQ297
    subst l297 y297 z297
    obtain ⟨rfl, Nq297, e297⟩ := hQ297
    have Np298 := Fr.app Np296 Nq297
    refine Go.via st297 ?_
    show Go p.tables e below s _ _ _ (T297.setTop (mkF m 140 #[.val (.int p1), .val (.int p2), .val (.int p3), .val (.int p4), .val (.int (3 : Int32)), .val (.ref b1), .val (.ref b32), .val (.ref b85), .val (.ref b140), .val (.long ((((0 : Int64) + (1 : Int64)) + (1 : Int64)) + (1 : Int64))), .second, .unset, .unset] [(.ref b1)]))
    refine Go.on (fun t k => XS.astore X297.here hx rfl (hb hby at_140) rfl rfl (l' := #[.val (.int p1), .val (.int p2), .val (.int p3), .val (.int p4), .val (.int (3 : Int32)), .val (.ref b1), .val (.ref b32), .val (.ref b85), .val (.ref b140), .val (.long ((((0 : Int64) + (1 : Int64)) + (1 : Int64)) + (1 : Int64))), .second, .val (.ref b1), .unset]) rfl k) ?_
    show Go p.tables e below s _ _ _ (T297.setTop (mkF m 142 #[.val (.int p1), .val (.int p2), .val (.int p3), .val (.int p4), .val (.int (3 : Int32)), .val (.ref b1), .val (.ref b32), .val (.ref b85), .val (.ref b140), .val (.long ((((0 : Int64) + (1 : Int64)) + (1 : Int64)) + (1 : Int64))), .second, .val (.ref b1), .unset] []))
    refine Go.on (fun t k => XS.lload X297.here hx rfl (hb hby at_142) rfl k) ?_
    show Go p.tables e below s _ _ _ (T297.setTop (mkF m 144 #[.val (.int p1), .val (.int p2), .val (.int p3), .val (.int p4), .val (.int (3 : Int32)), .val (.ref b1), .val (.ref b32), .val (.ref b85), .val (.ref b140), .val (.long ((((0 : Int64) + (1 : Int64)) + (1 : Int64)) + (1 : Int64))), .second, .val (.ref b1), .unset] [(.long ((((0 : Int64) + (1 : Int64)) + (1 : Int64)) + (1 : Int64)))]))
    refine Go.on (fun t k => XS.iload X297.here hx rfl (hb hby at_144) rfl k) ?_
    show Go p.tables e below s _ _ _ (T297.setTop (mkF m 146 #[.val (.int p1), .val (.int p2), .val (.int p3), .val (.int p4), .val (.int (3 : Int32)), .val (.ref b1), .val (.ref b32), .val (.ref b85), .val (.ref b140), .val (.long ((((0 : Int64) + (1 : Int64)) + (1 : Int64)) + (1 : Int64))), .second, .val (.ref b1), .unset] [(.int (3 : Int32)), (.long ((((0 : Int64) + (1 : Int64)) + (1 : Int64)) + (1 : Int64)))]))
    refine Go.on (fun t k => XS.i2l X297.here hx rfl (hb hby at_146) rfl k) ?_
    show Go p.tables e below s _ _ _ (T297.setTop (mkF m 147 #[.val (.int p1), .val (.int p2), .val (.int p3), .val (.int p4), .val (.int (3 : Int32)), .val (.ref b1), .val (.ref b32), .val (.ref b85), .val (.ref b140), .val (.long ((((0 : Int64) + (1 : Int64)) + (1 : Int64)) + (1 : Int64))), .second, .val (.ref b1), .unset] [(.long ((3 : Int32).toInt64)), (.long ((((0 : Int64) + (1 : Int64)) + (1 : Int64)) + (1 : Int64)))]))
    refine Go.on (fun t k => XS.lcmp X297.here hx rfl (hb hby at_147) rfl k) ?_
    show Go p.tables e below s _ _ _ (T297.setTop (mkF m 148 #[.val (.int p1), .val (.int p2), .val (.int p3), .val (.int p4), .val (.int (3 : Int32)), .val (.ref b1), .val (.ref b32), .val (.ref b85), .val (.ref b140), .val (.long ((((0 : Int64) + (1 : Int64)) + (1 : Int64)) + (1 : Int64))), .second, .val (.ref b1), .unset] [(.int (lcmpW ((((0 : Int64) + (1 : Int64)) + (1 : Int64)) + (1 : Int64)) ((3 : Int32).toInt64)))]))
    refine Go.on (fun t k => XS.ifYes X297.here hx rfl (pc0 := 148) (pc' := 153) rfl (hb hby at_148) rfl ((if0 _ _).trans (teq (by decide : (lcmpW ((((0 : Int64) + (1 : Int64)) + (1 : Int64)) + (1 : Int64)) ((3 : Int32).toInt64)) = (0 : Int32))).1) (by decide) (by decide) k) ?_
    show Go p.tables e below s _ _ _ (T297.setTop (mkF m 153 #[.val (.int p1), .val (.int p2), .val (.int p3), .val (.int p4), .val (.int (3 : Int32)), .val (.ref b1), .val (.ref b32), .val (.ref b85), .val (.ref b140), .val (.long ((((0 : Int64) + (1 : Int64)) + (1 : Int64)) + (1 : Int64))), .second, .val (.ref b1), .unset] []))
    refine Go.on (fun t k => XS.iload X297.here hx rfl (hb hby at_153) rfl k) ?_
    show Go p.tables e below s _ _ _ (T297.setTop (mkF m 155 #[.val (.int p1), .val (.int p2), .val (.int p3), .val (.int p4), .val (.int (3 : Int32)), .val (.ref b1), .val (.ref b32), .val (.ref b85), .val (.ref b140), .val (.long ((((0 : Int64) + (1 : Int64)) + (1 : Int64)) + (1 : Int64))), .second, .val (.ref b1), .unset] [(.int (3 : Int32))]))
    refine Go.on (fun t k => XS.ifYes X297.here hx rfl (pc0 := 155) (pc' := 165) rfl (hb hby at_155) rfl ((if0 _ _).trans (feq (by decide : ¬ ((3 : Int32) = (0 : Int32)))).2) (by decide) (by decide) k) ?_
    show Go p.tables e below s _ _ _ (T297.setTop (mkF m 165 #[.val (.int p1), .val (.int p2), .val (.int p3), .val (.int p4), .val (.int (3 : Int32)), .val (.ref b1), .val (.ref b32), .val (.ref b85), .val (.ref b140), .val (.long ((((0 : Int64) + (1 : Int64)) + (1 : Int64)) + (1 : Int64))), .second, .val (.ref b1), .unset] []))
    refine Go.on (fun t k => XS.aload X297.here hx rfl (hb hby at_165) rfl rfl k) ?_
    show Go p.tables e below s _ _ _ (T297.setTop (mkF m 167 #[.val (.int p1), .val (.int p2), .val (.int p3), .val (.int p4), .val (.int (3 : Int32)), .val (.ref b1), .val (.ref b32), .val (.ref b85), .val (.ref b140), .val (.long ((((0 : Int64) + (1 : Int64)) + (1 : Int64)) + (1 : Int64))), .second, .val (.ref b1), .unset] [(.ref b1)]))
    refine Go.on (fun t k => XS.aload X297.here hx rfl (hb hby at_167) rfl rfl k) ?_
    show Go p.tables e below s _ _ _ (T297.setTop (mkF m 169 #[.val (.int p1), .val (.int p2), .val (.int p3), .val (.int p4), .val (.int (3 : Int32)), .val (.ref b1), .val (.ref b32), .val (.ref b85), .val (.ref b140), .val (.long ((((0 : Int64) + (1 : Int64)) + (1 : Int64)) + (1 : Int64))), .second, .val (.ref b1), .unset] [(.ref b1), (.ref b1)]))
    refine Go.on (fun t k => Jvm.RoadKit.acmp (g := (mkF m 169 #[.val (.int p1), .val (.int p2), .val (.int p3), .val (.int p4), .val (.int (3 : Int32)), .val (.ref b1), .val (.ref b32), .val (.ref b85), .val (.ref b140), .val (.long ((((0 : Int64) + (1 : Int64)) + (1 : Int64)) + (1 : Int64))), .second, .val (.ref b1), .unset] [(.ref b1), (.ref b1)])) X297 hx rfl rfl rfl (pc0 := 169) (pc' := 174) (same := true) rfl (hb hby at_169) rfl (decide_eq_true rfl) (by decide) (by decide) k) ?_
    show Go p.tables e below s _ _ _ (T297.setTop (mkF m 174 #[.val (.int p1), .val (.int p2), .val (.int p3), .val (.int p4), .val (.int (3 : Int32)), .val (.ref b1), .val (.ref b32), .val (.ref b85), .val (.ref b140), .val (.long ((((0 : Int64) + (1 : Int64)) + (1 : Int64)) + (1 : Int64))), .second, .val (.ref b1), .unset] []))
    refine Go.on (fun t k => XS.aload X297.here hx rfl (hb hby at_174) rfl rfl k) ?_
    show Go p.tables e below s _ _ _ (T297.setTop (mkF m 176 #[.val (.int p1), .val (.int p2), .val (.int p3), .val (.int p4), .val (.int (3 : Int32)), .val (.ref b1), .val (.ref b32), .val (.ref b85), .val (.ref b140), .val (.long ((((0 : Int64) + (1 : Int64)) + (1 : Int64)) + (1 : Int64))), .second, .val (.ref b1), .unset] [(.ref b140)]))
    refine Go.on (fun t k => XS.aload X297.here hx rfl (hb hby at_176) rfl rfl k) ?_
    show Go p.tables e below s _ _ _ (T297.setTop (mkF m 178 #[.val (.int p1), .val (.int p2), .val (.int p3), .val (.int p4), .val (.int (3 : Int32)), .val (.ref b1), .val (.ref b32), .val (.ref b85), .val (.ref b140), .val (.long ((((0 : Int64) + (1 : Int64)) + (1 : Int64)) + (1 : Int64))), .second, .val (.ref b1), .unset] [(.ref b85), (.ref b140)]))
    obtain ⟨cq299, kq299, q299a, q299b, q299c⟩ := isOf hZ e297 A140_292
    obtain ⟨_, _, ⟨T299, L299, k299, n299⟩, -, X299, ⟨Lc299, hQ299, l299, y299, z299⟩, st299⟩ := X297.virtualBack hx (y := (⟨"com/example/loomport/loomport/loadgen/Tally", "error", "(Ljava/lang/String;)V"⟩ : MethodName)) (z := (⟨"com/example/loomport/loomport/loadgen/Tally", "error", "(Ljava/lang/String;)V"⟩ : MethodName)) hown (mvT hZ (hw _ (List.mem_of_getElem? (i := 76) rfl))) (mvT hZ (hw _ (List.mem_of_getElem? (i := 77) rfl))) (notFace_of_selects (args := #[]) (mvT hZ (hw _ (List.mem_of_getElem? (i := 79) rfl)))) (mvT hZ (hw _ (List.mem_of_getElem? (i := 79) rfl))) (mvT hZ (hw _ (List.mem_of_getElem? (i := 78) rfl))) (by decide) (backOf (W := 0) (rm14s l Z a0 hw [] b140 b85 ((((0 : Int64) + (1 : Int64)) + (1 : Int64)) + (1 : Int64)) b1 T284.heap n0 Zp293 A140_292 ge147 P284_0 P284_1) hZ (hw _ (List.mem_of_getElem? (i := 80) rfl)) (hw _ (List.mem_of_getElem? (i := 32) rfl)) (by decide) (by decide)) q299a q299c (g := (mkF m 178 #[.val (.int p1), .val (.int p2), .val (.int p3), .val (.int p4), .val (.int (3 : Int32)), .val (.ref b1), .val (.ref b32), .val (.ref b85), .val (.ref b140), .val (.long ((((0 : Int64) + (1 : Int64)) + (1 : Int64)) + (1 : Int64))), .second, .val (.ref b1), .unset] [(.ref b85), (.ref b140)])) rfl (by rw [hml]; rfl) (Steps.refl _) (argsL := [(.ref b85)]) (rest := []) (lenOf pd__40_Ljava_47_lang_47_String_59__41_V rfl) rfl (by show 2 * 0 + _ ≤ _; exact Nat.le_of_eq rfl) (hb hby at_178) (fun _ _ => ⟨rfl, e297, (by decide : ((((((((((((((((0 + 1) + 1) + 1) + 1) + 1) + 1) + 1) + 1) + 1) + 1) + 2) + 0) + 0) + 0) + 0) + 0) + 0 ≤ _), (by decide : ((((((((((((((((0 + 4) + 1) + 1) + 4) + 2) + 2) + 4) + 1) + 1) + 7) + 45058) + 0) + 0) + 0) + 0) + 0) + 0 ≤ _)⟩)
    dsimp only [Pt.U, Pt.locs, Pt.cells, Pt.slots] at X299 l299 y299 z299 st299 hQ299
    subst l299 y299 z299
    obtain ⟨rfl, Nq299, Kq299, P299_0, P299_1⟩ := hQ299
    have Old0_300 := Old0_285.keep Kq299 (allS ge147 all0)
    have A1_301 := A1_286.keep Kq299
    have Vb8_302 := Vb8_287.keep Kq299 (ninS ne142 nin0)
    have A32_303 := A32_288.keep Kq299
    have Vb43_304 := Vb43_289.keep Kq299 (ninS ne144 nin0)
    have A85_305 := A85_290.keep Kq299
    have Vb100_306 := Vb100_291.keep Kq299 (ninS ne146 nin0)
    have A140_307 := A140_292.keep Kq299
    have Zp308 := Nat.le_trans Zp293 Kq299.1
    have Np309 := Fr.app Np298 Nq299
    refine Go.via st299 ?_
    show Go p.tables e below s _ _ _ (T299.setTop (mkF m 181 #[.val (.int p1), .val (.int p2), .val (.int p3), .val (.int p4), .val (.int (3 : Int32)), .val (.ref b1), .val (.ref b32), .val (.ref b85), .val (.ref b140), .val (.long ((((0 : Int64) + (1 : Int64)) + (1 : Int64)) + (1 : Int64))), .second, .val (.ref b1), .unset] []))
    refine Go.on (fun t k => XS.aload X299.here hx rfl (hb hby at_181) rfl rfl k) ?_
    show Go p.tables e below s _ _ _ (T299.setTop (mkF m 183 #[.val (.int p1), .val (.int p2), .val (.int p3), .val (.int p4), .val (.int (3 : Int32)), .val (.ref b1), .val (.ref b32), .val (.ref b85), .val (.ref b140), .val (.long ((((0 : Int64) + (1 : Int64)) + (1 : Int64)) + (1 : Int64))), .second, .val (.ref b1), .unset] [(.ref b140)]))
    obtain ⟨cq310, kq310, q310a, q310b, q310c⟩ := isOf hZ rfl A140_307
    obtain ⟨_, _, ⟨T310, L310, k310, n310⟩, -, X310, ⟨Lc310, hQ310, l310, y310, z310⟩, st310⟩ := X299.virtualBack hx (y := (⟨"com/example/loomport/loomport/loadgen/Tally", "errors", "()J"⟩ : MethodName)) (z := (⟨"com/example/loomport/loomport/loadgen/Tally", "errors", "()J"⟩ : MethodName)) hown (mvT hZ (hw _ (List.mem_of_getElem? (i := 62) rfl))) (mvT hZ (hw _ (List.mem_of_getElem? (i := 63) rfl))) (notFace_of_selects (args := #[]) (mvT hZ (hw _ (List.mem_of_getElem? (i := 65) rfl)))) (mvT hZ (hw _ (List.mem_of_getElem? (i := 65) rfl))) (mvT hZ (hw _ (List.mem_of_getElem? (i := 64) rfl))) (by decide) (backOf (W := 0) (rm12 l Z a0 hw [] b140 (((((0 : Int64) + (1 : Int64)) + (1 : Int64)) + (1 : Int64)) + (1 : Int64)) T299.heap n0 Zp308 P299_0) hZ (hw _ (List.mem_of_getElem? (i := 66) rfl)) (hw _ (List.mem_of_getElem? (i := 32) rfl)) (by decide) (by decide)) q310a q310c (g := (mkF m 183 #[.val (.int p1), .val (.int p2), .val (.int p3), .val (.int p4), .val (.int (3 : Int32)), .val (.ref b1), .val (.ref b32), .val (.ref b85), .val (.ref b140), .val (.long ((((0 : Int64) + (1 : Int64)) + (1 : Int64)) + (1 : Int64))), .second, .val (.ref b1), .unset] [(.ref b140)])) rfl (by rw [hml]; rfl) (Steps.refl _) (argsL := []) (rest := []) (lenOf pd__40__41_J rfl) rfl (by show 2 * 0 + _ ≤ _; exact Nat.le_of_eq rfl) (hb hby at_183) (fun _ _ => ⟨rfl, rfl, (by decide : (((((((((((((((((0 + 1) + 1) + 1) + 1) + 1) + 1) + 1) + 1) + 1) + 1) + 2) + 0) + 0) + 0) + 0) + 0) + 0) + 0 ≤ _), (by decide : (((((((((((((((((0 + 4) + 1) + 1) + 4) + 2) + 2) + 4) + 1) + 1) + 7) + 45058) + 0) + 0) + 0) + 0) + 0) + 0) + 0 ≤ _)⟩)
    dsimp only [Pt.U, Pt.locs, Pt.cells, Pt.slots] at X310 l310 y310 z310 st310 hQ310
    subst l310 y310 z310
    obtain ⟨rfl, Nq310, e310⟩ := hQ310
    have Np311 := Fr.app Np309 Nq310
    refine Go.via st310 ?_
    show Go p.tables e below s _ _ _ (T310.setTop (mkF m 186 #[.val (.int p1), .val (.int p2), .val (.int p3), .val (.int p4), .val (.int (3 : Int32)), .val (.ref b1), .val (.ref b32), .val (.ref b85), .val (.ref b140), .val (.long ((((0 : Int64) + (1 : Int64)) + (1 : Int64)) + (1 : Int64))), .second, .val (.ref b1), .unset] [(.long (((((0 : Int64) + (1 : Int64)) + (1 : Int64)) + (1 : Int64)) + (1 : Int64)))]))
    refine Go.on (fun t k => XS.iload X310.here hx rfl (hb hby at_186) rfl k) ?_
    show Go p.tables e below s _ _ _ (T310.setTop (mkF m 188 #[.val (.int p1), .val (.int p2), .val (.int p3), .val (.int p4), .val (.int (3 : Int32)), .val (.ref b1), .val (.ref b32), .val (.ref b85), .val (.ref b140), .val (.long ((((0 : Int64) + (1 : Int64)) + (1 : Int64)) + (1 : Int64))), .second, .val (.ref b1), .unset] [(.int (3 : Int32)), (.long (((((0 : Int64) + (1 : Int64)) + (1 : Int64)) + (1 : Int64)) + (1 : Int64)))]))
    refine Go.on (fun t k => XS.iconst X310.here hx rfl (hb hby at_188) k) ?_
    show Go p.tables e below s _ _ _ (T310.setTop (mkF m 189 #[.val (.int p1), .val (.int p2), .val (.int p3), .val (.int p4), .val (.int (3 : Int32)), .val (.ref b1), .val (.ref b32), .val (.ref b85), .val (.ref b140), .val (.long ((((0 : Int64) + (1 : Int64)) + (1 : Int64)) + (1 : Int64))), .second, .val (.ref b1), .unset] [(.int (1 : Int32)), (.int (3 : Int32)), (.long (((((0 : Int64) + (1 : Int64)) + (1 : Int64)) + (1 : Int64)) + (1 : Int64)))]))
    refine Go.on (fun t k => XS.iadd X310.here hx rfl (hb hby at_189) rfl k) ?_
    show Go p.tables e below s _ _ _ (T310.setTop (mkF m 190 #[.val (.int p1), .val (.int p2), .val (.int p3), .val (.int p4), .val (.int (3 : Int32)), .val (.ref b1), .val (.ref b32), .val (.ref b85), .val (.ref b140), .val (.long ((((0 : Int64) + (1 : Int64)) + (1 : Int64)) + (1 : Int64))), .second, .val (.ref b1), .unset] [(.int (4 : Int32)), (.long (((((0 : Int64) + (1 : Int64)) + (1 : Int64)) + (1 : Int64)) + (1 : Int64)))]))
    refine Go.on (fun t k => XS.i2l X310.here hx rfl (hb hby at_190) rfl k) ?_
    show Go p.tables e below s _ _ _ (T310.setTop (mkF m 191 #[.val (.int p1), .val (.int p2), .val (.int p3), .val (.int p4), .val (.int (3 : Int32)), .val (.ref b1), .val (.ref b32), .val (.ref b85), .val (.ref b140), .val (.long ((((0 : Int64) + (1 : Int64)) + (1 : Int64)) + (1 : Int64))), .second, .val (.ref b1), .unset] [(.long ((4 : Int32).toInt64)), (.long (((((0 : Int64) + (1 : Int64)) + (1 : Int64)) + (1 : Int64)) + (1 : Int64)))]))
    refine Go.on (fun t k => XS.lcmp X310.here hx rfl (hb hby at_191) rfl k) ?_
    show Go p.tables e below s _ _ _ (T310.setTop (mkF m 192 #[.val (.int p1), .val (.int p2), .val (.int p3), .val (.int p4), .val (.int (3 : Int32)), .val (.ref b1), .val (.ref b32), .val (.ref b85), .val (.ref b140), .val (.long ((((0 : Int64) + (1 : Int64)) + (1 : Int64)) + (1 : Int64))), .second, .val (.ref b1), .unset] [(.int (lcmpW (((((0 : Int64) + (1 : Int64)) + (1 : Int64)) + (1 : Int64)) + (1 : Int64)) ((4 : Int32).toInt64)))]))
    refine Go.on (fun t k => XS.ifYes X310.here hx rfl (pc0 := 192) (pc' := 197) rfl (hb hby at_192) rfl ((if0 _ _).trans (teq (by decide : (lcmpW (((((0 : Int64) + (1 : Int64)) + (1 : Int64)) + (1 : Int64)) + (1 : Int64)) ((4 : Int32).toInt64)) = (0 : Int32))).1) (by decide) (by decide) k) ?_
    show Go p.tables e below s _ _ _ (T310.setTop (mkF m 197 #[.val (.int p1), .val (.int p2), .val (.int p3), .val (.int p4), .val (.int (3 : Int32)), .val (.ref b1), .val (.ref b32), .val (.ref b85), .val (.ref b140), .val (.long ((((0 : Int64) + (1 : Int64)) + (1 : Int64)) + (1 : Int64))), .second, .val (.ref b1), .unset] []))
    refine Go.on (fun t k => XS.iload X310.here hx rfl (hb hby at_197) rfl k) ?_
    show Go p.tables e below s _ _ _ (T310.setTop (mkF m 199 #[.val (.int p1), .val (.int p2), .val (.int p3), .val (.int p4), .val (.int (3 : Int32)), .val (.ref b1), .val (.ref b32), .val (.ref b85), .val (.ref b140), .val (.long ((((0 : Int64) + (1 : Int64)) + (1 : Int64)) + (1 : Int64))), .second, .val (.ref b1), .unset] [(.int (3 : Int32))]))
    refine Go.on (fun t k => XS.ifYes X310.here hx rfl (pc0 := 199) (pc' := 207) rfl (hb hby at_199) rfl ((if0 _ _).trans (feq (by decide : ¬ ((3 : Int32) = (0 : Int32)))).2) (by decide) (by decide) k) ?_
    show Go p.tables e below s _ _ _ (T310.setTop (mkF m 207 #[.val (.int p1), .val (.int p2), .val (.int p3), .val (.int p4), .val (.int (3 : Int32)), .val (.ref b1), .val (.ref b32), .val (.ref b85), .val (.ref b140), .val (.long ((((0 : Int64) + (1 : Int64)) + (1 : Int64)) + (1 : Int64))), .second, .val (.ref b1), .unset] []))
    refine Go.on (fun t k => XS.aload X310.here hx rfl (hb hby at_207) rfl rfl k) ?_
    show Go p.tables e below s _ _ _ (T310.setTop (mkF m 209 #[.val (.int p1), .val (.int p2), .val (.int p3), .val (.int p4), .val (.int (3 : Int32)), .val (.ref b1), .val (.ref b32), .val (.ref b85), .val (.ref b140), .val (.long ((((0 : Int64) + (1 : Int64)) + (1 : Int64)) + (1 : Int64))), .second, .val (.ref b1), .unset] [(.ref b1)]))
    refine Go.on (fun t k => XS.astore X310.here hx rfl (hb hby at_209) rfl rfl (l' := #[.val (.int p1), .val (.int p2), .val (.int p3), .val (.int p4), .val (.int (3 : Int32)), .val (.ref b1), .val (.ref b32), .val (.ref b85), .val (.ref b140), .val (.long ((((0 : Int64) + (1 : Int64)) + (1 : Int64)) + (1 : Int64))), .second, .val (.ref b1), .val (.ref b1)]) rfl k) ?_
    show Go p.tables e below s _ _ _ (T310.setTop (mkF m 211 #[.val (.int p1), .val (.int p2), .val (.int p3), .val (.int p4), .val (.int (3 : Int32)), .val (.ref b1), .val (.ref b32), .val (.ref b85), .val (.ref b140), .val (.long ((((0 : Int64) + (1 : Int64)) + (1 : Int64)) + (1 : Int64))), .second, .val (.ref b1), .val (.ref b1)] []))
    refine Go.on (fun t k => XS.aload X310.here hx rfl (hb hby at_211) rfl rfl k) ?_
    show Go p.tables e below s _ _ _ (T310.setTop (mkF m 213 #[.val (.int p1), .val (.int p2), .val (.int p3), .val (.int p4), .val (.int (3 : Int32)), .val (.ref b1), .val (.ref b32), .val (.ref b85), .val (.ref b140), .val (.long ((((0 : Int64) + (1 : Int64)) + (1 : Int64)) + (1 : Int64))), .second, .val (.ref b1), .val (.ref b1)] [(.ref b140)]))
    obtain ⟨cq312, kq312, q312a, q312b, q312c⟩ := isOf hZ e310 A140_307
    obtain ⟨_, _, ⟨T312, L312, k312, n312⟩, -, X312, ⟨Lc312, hQ312, l312, y312, z312⟩, st312⟩ := X310.virtualBack hx (y := (⟨"com/example/loomport/loomport/loadgen/Tally", "firstError", "()Ljava/lang/String;"⟩ : MethodName)) (z := (⟨"com/example/loomport/loomport/loadgen/Tally", "firstError", "()Ljava/lang/String;"⟩ : MethodName)) hown (mvT hZ (hw _ (List.mem_of_getElem? (i := 69) rfl))) (mvT hZ (hw _ (List.mem_of_getElem? (i := 70) rfl))) (notFace_of_selects (args := #[]) (mvT hZ (hw _ (List.mem_of_getElem? (i := 72) rfl)))) (mvT hZ (hw _ (List.mem_of_getElem? (i := 72) rfl))) (mvT hZ (hw _ (List.mem_of_getElem? (i := 71) rfl))) (by decide) (backOf (W := 0) (rm13s l Z a0 hw [] b140 b1 T299.heap n0 Zp308 P299_1) hZ (hw _ (List.mem_of_getElem? (i := 73) rfl)) (hw _ (List.mem_of_getElem? (i := 32) rfl)) (by decide) (by decide)) q312a q312c (g := (mkF m 213 #[.val (.int p1), .val (.int p2), .val (.int p3), .val (.int p4), .val (.int (3 : Int32)), .val (.ref b1), .val (.ref b32), .val (.ref b85), .val (.ref b140), .val (.long ((((0 : Int64) + (1 : Int64)) + (1 : Int64)) + (1 : Int64))), .second, .val (.ref b1), .val (.ref b1)] [(.ref b140)])) rfl (by rw [hml]; rfl) (Steps.refl _) (argsL := []) (rest := []) (lenOf pd__40__41_Ljava_47_lang_47_String_59_ rfl) rfl (by show 2 * 0 + _ ≤ _; exact Nat.le_of_eq rfl) (hb hby at_213) (fun _ _ => ⟨rfl, e310, (by decide : ((((((((((((((((((0 + 1) + 1) + 1) + 1) + 1) + 1) + 1) + 1) + 1) + 1) + 2) + 0) + 0) + 0) + 0) + 0) + 0) + 0) + 0 ≤ _), (by decide : ((((((((((((((((((0 + 4) + 1) + 1) + 4) + 2) + 2) + 4) + 1) + 1) + 7) + 45058) + 0) + 0) + 0) + 0) + 0) + 0) + 0) + 0 ≤ _)⟩)
    dsimp only [Pt.U, Pt.locs, Pt.cells, Pt.slots] at X312 l312 y312 z312 st312 hQ312
    subst l312 y312 z312
    obtain ⟨rfl, Nq312, e312⟩ := hQ312
    have Np313 := Fr.app Np311 Nq312
    refine Go.via st312 ?_
    show Go p.tables e below s _ _ _ (T312.setTop (mkF m 216 #[.val (.int p1), .val (.int p2), .val (.int p3), .val (.int p4), .val (.int (3 : Int32)), .val (.ref b1), .val (.ref b32), .val (.ref b85), .val (.ref b140), .val (.long ((((0 : Int64) + (1 : Int64)) + (1 : Int64)) + (1 : Int64))), .second, .val (.ref b1), .val (.ref b1)] [(.ref b1)]))
    refine Go.on (fun t k => XS.aload X312.here hx rfl (hb hby at_216) rfl rfl k) ?_
    show Go p.tables e below s _ _ _ (T312.setTop (mkF m 218 #[.val (.int p1), .val (.int p2), .val (.int p3), .val (.int p4), .val (.int (3 : Int32)), .val (.ref b1), .val (.ref b32), .val (.ref b85), .val (.ref b140), .val (.long ((((0 : Int64) + (1 : Int64)) + (1 : Int64)) + (1 : Int64))), .second, .val (.ref b1), .val (.ref b1)] [(.ref b1), (.ref b1)]))
    refine Go.on (fun t k => Jvm.RoadKit.acmp (g := (mkF m 218 #[.val (.int p1), .val (.int p2), .val (.int p3), .val (.int p4), .val (.int (3 : Int32)), .val (.ref b1), .val (.ref b32), .val (.ref b85), .val (.ref b140), .val (.long ((((0 : Int64) + (1 : Int64)) + (1 : Int64)) + (1 : Int64))), .second, .val (.ref b1), .val (.ref b1)] [(.ref b1), (.ref b1)])) X312 hx rfl rfl rfl (pc0 := 218) (pc' := 221) (same := true) rfl (hb hby at_218) rfl (decide_eq_true rfl) (by decide) (by decide) k) ?_
    show Go p.tables e below s _ _ _ (T312.setTop (mkF m 221 #[.val (.int p1), .val (.int p2), .val (.int p3), .val (.int p4), .val (.int (3 : Int32)), .val (.ref b1), .val (.ref b32), .val (.ref b85), .val (.ref b140), .val (.long ((((0 : Int64) + (1 : Int64)) + (1 : Int64)) + (1 : Int64))), .second, .val (.ref b1), .val (.ref b1)] []))
    refine Go.on (fun t k => XS.iconst X312.here hx rfl (hb hby at_221) k) ?_
    show Go p.tables e below s _ _ _ (T312.setTop (mkF m 222 #[.val (.int p1), .val (.int p2), .val (.int p3), .val (.int p4), .val (.int (3 : Int32)), .val (.ref b1), .val (.ref b32), .val (.ref b85), .val (.ref b140), .val (.long ((((0 : Int64) + (1 : Int64)) + (1 : Int64)) + (1 : Int64))), .second, .val (.ref b1), .val (.ref b1)] [(.int (1 : Int32))]))
    refine Go.on (fun t k => XS.goto X312.here hx rfl (pc0 := 222) (pc' := 226) rfl (hb hby at_222) (by decide) (by decide) k) ?_
    show Go p.tables e below s _ _ _ (T312.setTop (mkF m 226 #[.val (.int p1), .val (.int p2), .val (.int p3), .val (.int p4), .val (.int (3 : Int32)), .val (.ref b1), .val (.ref b32), .val (.ref b85), .val (.ref b140), .val (.long ((((0 : Int64) + (1 : Int64)) + (1 : Int64)) + (1 : Int64))), .second, .val (.ref b1), .val (.ref b1)] [(.int (1 : Int32))]))
    refine Go.retN X312 hx hlk (t := .boolean) Bd.returns (by simp) (hb hby at_226) (by decide) (by decide) e312 ?_
    exact ⟨rfl, Np313⟩
set_option maxRecDepth 65536 in
set_option maxHeartbeats 40000000 in
theorem comes_1 {Post : Tables → Env → Array Value → State → Outcome → State → Prop} (hpost : ∀ tb e args s v u, (limb_1_1.after args s (.returned v) u = true ∧ limb_1_2.after args s (.returned v) u = true ∧ True) → FrameEnd s (.returned v) u (Jvm.fieldLocs frame_1_writes args s ++ Jvm.arrayLocs frame_1_arrays args s ++ Jvm.staticLocs frame_1_statics s) 32 90240 → Post tb e args s (.returned v) u) :
    ArmFor flags0 classFile x code maxLocals ret World_1 tables_1 room_1 Calls_1 rest_1 Pre_1 Post := by
  intro l hfl _ _ p e ha hc hk s m args below hf hA hF happ hP
  obtain ⟨hcalls, hrest, hpre⟩ := hP
  obtain ⟨-, -, -, hnamed, -, -, -, hat⟩ := (Spec.applies_iff hf).mp happ
  obtain ⟨hg, hn⟩ := and_e (Cond.before_iff.mp (show (Jvm.Cond.and given_1 narrow_1).before args s = true from hpre))
  obtain ⟨gg1, gg2⟩ := and_e hg
  obtain ⟨gg3, gg4⟩ := and_e gg2
  obtain ⟨gg5, gg6⟩ := and_e gg4
  obtain ⟨gg7, gg8⟩ := and_e gg6
  obtain ⟨w0, w1, w2, w3, rfl⟩ : ∃ w0 w1 w2 w3 : Value, args = #[w0, w1, w2, w3] := by
    have hs : args.size = 4 := by simpa [Cond.value, given_1] using gg1
    obtain ⟨L⟩ := args
    match L, hs with
    | [w0, w1, w2, w3], _ => exact ⟨w0, w1, w2, w3, rfl⟩
  have hw := fun d (hd : d ∈ tables_1) => atoms_spec (ws := Jvm.Cond.code x code maxLocals ret :: tables_1) hat d (List.mem_cons_of_mem _ hd)
  have hfit : Fit s := fun {y c} hc i hi => by
    obtain ⟨ha, rfl⟩ := Array.getElem?_eq_some_iff.mp hc
    have q := List.all_eq_true.mp ((Array.all_eq_true_iff_forall_mem.mp hF) _ (Array.getElem_mem ha)) i (List.mem_range.mpr hi)
    simpa [Array.getElem?_eq_getElem hi] using q
  obtain ⟨hsets, hown0⟩ := atoms_of _ (rest_1_c_eq ▸ (show rest_1_c.before _ s = true from hrest))
  obtain ⟨i0, ei0⟩ := is_v gg3
  obtain rfl : w0 = (.int i0) := Option.some.inj ei0
  obtain ⟨i1, ei1⟩ := is_v gg5
  obtain rfl : w1 = (.int i1) := Option.some.inj ei1
  obtain ⟨i2, ei2⟩ := is_v gg7
  obtain rfl : w2 = (.int i2) := Option.some.inj ei2
  obtain ⟨i3, ei3⟩ := is_v gg8
  obtain rfl : w3 = (.int i3) := Option.some.inj ei3
  obtain ⟨G1, ev1⟩ := is_v (Cond.before_iff.mp (hsets _ (List.mem_of_getElem? (i := 1) rfl)))
  have O2 := Sta.start ev1 (Or.inl (hsets _ (List.mem_of_getElem? (i := 0) rfl)))
  have P5 : ¬ (G1 = (0 : Int32)) := gotF (Cond.eq_ints ev1 (Term.int_eval (0))) (not_v (Cond.before_iff.mp (hsets _ (List.mem_of_getElem? (i := 2) rfl))))
  obtain ⟨n, o, h1, h2, h3, _, L, rfl, ⟨rfl, N⟩, hq⟩ := rm0 l s _ hw tables_1 i0 i1 i2 i3 G1 s.heap s.heap.size (Nat.le_refl _) (Old.start s) O2 P5 p e ha hc hk s m _ below hf ((Spec.applies_iff_loose hf).mp happ).1 ⟨rfl, State.Warmed39.refl s, rfl⟩ trivial
  refine ⟨n, _, h1, h2, h3, hpost _ _ _ _ _ _ ⟨Cond.after_iff.mpr rfl, Cond.after_iff.mpr (eq_i res_at (Term.int_eval (1)) rfl), trivial⟩ ⟨hq.1, hq.2.1, (hq.2.2.sift fun y hy => Or.inr (N y hy)).mono (by decide) (by decide)⟩⟩
theorem main_1_1 : Claimed_1_1 := comes_1 fun _ _ _ _ _ _ h hF => ⟨h.1, hF⟩
theorem main_1_2 : Claimed_1_2 := comes_1 fun _ _ _ _ _ _ h hF => ⟨h.2.1, hF⟩
end Jvm.Pilot.@@N@@
namespace Jvm.Pilot.@@N@@
open Jvm Jvm.ClassFile Sem Op Lib Jvm.Free Jvm.Stand Jvm.Pilot.@@N@@.Jvm.D
/-! MADE BY PROGRAM (witnessworld.py) out of the Statement's table words and the real class files: 26 classes; the members and pool entries that the words name. The judged class is class 1, her method 1. -/
namespace start1
open Jvm.ClassFile
def u (s : String) : CpInfo := .utf8 (stringToUtf16 s)
/-- a pool by its gaps: so many unusable entries, then the entry; so many at the end -/
def gap : Nat → List CpInfo → List CpInfo
  | 0, r => r
  | n + 1, r => .unusable :: gap n r
def poolList (es : List (Nat × CpInfo)) (last : Nat) : List CpInfo := es.foldr (fun e r => gap e.1 (e.2 :: r)) (gap last [])
def pool (es : List (Nat × CpInfo)) (last : Nat) : Array CpInfo := ⟨poolList es last⟩
def fileOf (pool : Array CpInfo) (this : Nat) (attrs : Array Attribute := #[]) (ms : Array MethodInfo := #[]) (fl : Nat := 33) (sup : Nat := 0) (ifs : Array Nat := #[]) (fds : Array FieldInfo := #[]) : ClassFile where
  minorVersion := 0
  majorVersion := 65
  constantPool := pool
  accessFlags := fl
  thisClass := this
  superClass := sup
  interfaces := ifs
  fields := fds
  methods := ms
  attributes := attrs
def plain (name : String) (sup : Option ClassId) : Class where
  name := name
  kind := .ordinary
  loader := none
  accessFlags := 33
  super := sup
  interfaces := #[]
  cf := none
  fields := #[]
  methods := #[]
  instanceTypes := #[]
  staticTypes := #[]
  resolved := #[]
  callSites := []
  init := .initialized
  statics := none
  mirror := none

def pool0 : Array CpInfo := pool [(5, u "<init>"), (0, u "()V"), (1, .class_ 10), (1, u "java/lang/Object")] 113

def k0c0 : Code := { maxStack := 0, maxLocals := 1, code := object_method_1_code, exceptionTable := #[], attributes := #[] }
def k0m0 : Method := { name := "<init>", desc := "()V", sig := { parameters := [], returnType := none }, accessFlags := 1, code := some k0c0 }
/-- java/lang/Object -/
def k0 : Class := { plain "java/lang/Object" none with
  accessFlags := 33
  interfaces := #[]
  cf := some (fileOf pool0 8 #[] #[{ accessFlags := 1, nameIndex := 5, descriptorIndex := 6, attributes := #[] }] 33 0 #[] #[])
  fields := #[]
  methods := #[k0m0]
  instanceTypes := #[]
  staticTypes := #[]
  resolved := Array.replicate 124 none
  statics := none }

def pool1 : Array CpInfo := pool [(2, .class_ 4), (0, .nameAndType 5 6), (0, u "java/lang/Object"), (0, u "<init>"), (0, u "()V"), (0, .class_ 8), (0, u "java/lang/String"), (0, .methodref 7 10), (0, .nameAndType 5 11), (0, u "([C)V"), (0, .class_ 13), (0, u "com/example/loomport/loomport/loadgen/Tally"), (0, .methodref 12 3), (0, .methodref 12 16), (0, .nameAndType 17 18), (0, u "error"), (0, u "(Ljava/lang/String;)V"), (0, .methodref 12 20), (0, .nameAndType 21 22), (0, u "errors"), (0, u "()J"), (0, .methodref 12 24), (0, .nameAndType 25 26), (0, u "firstError"), (0, u "()Ljava/lang/String;"), (0, .class_ 28), (0, u "com/example/loomport/loomport/loadgen/TallyErrorPinLaw"), (2, u "law"), (0, u "(IIII)Z")] 3

def k1m0 : Method := { name := "<init>", desc := "()V", sig := { parameters := [], returnType := none }, accessFlags := 1, code := none }
def k1c1 : Code := { maxStack := 7, maxLocals := 13, code := code, exceptionTable := #[], attributes := #[] }
def k1m1 : Method := { name := "law", desc := "(IIII)Z", sig := { parameters := [.int, .int, .int, .int], returnType := some .boolean }, accessFlags := 9, code := some k1c1 }
/-- com/example/loomport/loomport/loadgen/TallyErrorPinLaw -/
def k1 : Class := { plain "com/example/loomport/loomport/loadgen/TallyErrorPinLaw" (some 0) with
  accessFlags := 49
  interfaces := #[]
  cf := some (fileOf pool1 27 #[] #[{ accessFlags := 1, nameIndex := 5, descriptorIndex := 6, attributes := #[] }, { accessFlags := 9, nameIndex := 31, descriptorIndex := 32, attributes := #[] }] 49 2 #[] #[])
  fields := #[]
  methods := #[k1m0, k1m1]
  instanceTypes := #[]
  staticTypes := #[]
  resolved := Array.replicate 36 none
  statics := none }

def pool2 : Array CpInfo := pool [(1, .class_ 2), (0, u "java/io/Serializable"), (0, .class_ 4), (0, u "java/lang/Object")] 2

/-- java/io/Serializable -/
def k2 : Class := { plain "java/io/Serializable" (some 0) with
  accessFlags := 1537
  interfaces := #[]
  cf := some (fileOf pool2 1 #[] #[] 1537 3 #[] #[])
  fields := #[]
  methods := #[]
  instanceTypes := #[]
  staticTypes := #[]
  resolved := Array.replicate 7 none
  statics := none }

def pool3 : Array CpInfo := pool [(1, .class_ 2), (0, u "java/lang/Comparable"), (0, .class_ 4), (0, u "java/lang/Object")] 7

/-- java/lang/Comparable -/
def k3 : Class := { plain "java/lang/Comparable" (some 0) with
  accessFlags := 1537
  interfaces := #[]
  cf := some (fileOf pool3 1 #[] #[] 1537 3 #[] #[])
  fields := #[]
  methods := #[]
  instanceTypes := #[]
  staticTypes := #[]
  resolved := Array.replicate 12 none
  statics := none }

def pool4 : Array CpInfo := pool [(2, .class_ 4), (1, u "java/lang/CharSequence"), (42, .class_ 48), (0, u "java/lang/CharSequence$1CodePointIterator"), (10, .class_ 60), (0, u "java/lang/CharSequence$1CharIterator"), (5, .class_ 67), (0, u "java/lang/Object")] 63

/-- java/lang/CharSequence -/
def k4 : Class := { plain "java/lang/CharSequence" (some 0) with
  accessFlags := 1537
  interfaces := #[]
  cf := some (fileOf pool4 2 #[.nestMembers #[47, 59]] #[] 1537 66 #[] #[])
  fields := #[]
  methods := #[]
  instanceTypes := #[]
  staticTypes := #[]
  resolved := Array.replicate 131 none
  statics := none }

def pool5 : Array CpInfo := pool [(1, .class_ 2), (0, u "java/lang/constant/Constable"), (0, .class_ 4), (0, u "java/lang/Object")] 6

/-- java/lang/constant/Constable -/
def k5 : Class := { plain "java/lang/constant/Constable" (some 0) with
  accessFlags := 1537
  interfaces := #[]
  cf := some (fileOf pool5 1 #[] #[] 1537 3 #[] #[])
  fields := #[]
  methods := #[]
  instanceTypes := #[]
  staticTypes := #[]
  resolved := Array.replicate 11 none
  statics := none }

def pool6 : Array CpInfo := pool [(1, .class_ 2), (0, u "java/lang/constant/ConstantDesc"), (0, .class_ 4), (0, u "java/lang/Object")] 32

/-- java/lang/constant/ConstantDesc -/
def k6 : Class := { plain "java/lang/constant/ConstantDesc" (some 0) with
  accessFlags := 1537
  interfaces := #[]
  cf := some (fileOf pool6 1 #[] #[] 1537 3 #[] #[])
  fields := #[]
  methods := #[]
  instanceTypes := #[]
  staticTypes := #[]
  resolved := Array.replicate 37 none
  statics := none }

def pool7 : Array CpInfo := pool [(1, .methodref 2 3), (0, .class_ 4), (0, .nameAndType 5 6), (0, u "java/lang/Object"), (0, u "<init>"), (0, u "()V"), (2, .fieldref 10 11), (0, .class_ 12), (0, .nameAndType 13 14), (0, u "java/lang/String"), (0, u "value"), (0, u "[B"), (0, .fieldref 10 16), (0, .nameAndType 17 18), (0, u "coder"), (0, u "B"), (2, u "hash"), (0, u "I"), (2, u "hashIsZero"), (0, u "Z"), (0, .methodref 10 28), (0, .nameAndType 5 29), (0, u "([CIILjava/lang/Void;)V"), (8, .fieldref 10 39), (0, .nameAndType 40 26), (0, u "COMPACT_STRINGS"), (1, .class_ 44), (1, u "java/lang/StringUTF16"), (0, u "compress"), (1, .methodref 42 48), (0, .nameAndType 49 50), (0, u "coderFromArrayLen"), (0, u "([BI)B"), (126, .methodref 42 178), (0, .nameAndType 45 179), (0, u "([CII)[B"), (395, .class_ 576), (0, u "java/lang/CharSequence"), (22, u "CASE_INSENSITIVE_ORDER"), (0, u "Ljava/util/Comparator;"), (409, u "([C)V"), (90, u "serialPersistentFields"), (0, u "[Ljava/io/ObjectStreamField;"), (0, .class_ 1104), (0, u "java/lang/String$CaseInsensitiveComparator"), (1, .class_ 1107), (0, u "java/io/Serializable"), (0, .class_ 1109), (0, u "java/lang/Comparable"), (0, .class_ 1111), (0, u "java/lang/constant/Constable"), (0, .class_ 1113), (0, u "java/lang/constant/ConstantDesc"), (2, u "serialVersionUID"), (0, u "J"), (3, u "REPL"), (0, u "C"), (2, u "LATIN1"), (1, u "UTF16")] 323

def k7m0 : Method := { name := "<init>", desc := "()V", sig := { parameters := [], returnType := none }, accessFlags := 1, code := none }
def k7c1 : Code := { maxStack := 5, maxLocals := 2, code := jdk_42_method_3_code, exceptionTable := #[], attributes := #[] }
def k7m1 : Method := { name := "<init>", desc := "([C)V", sig := { parameters := [(.array .char)], returnType := none }, accessFlags := 1, code := some k7c1 }
def k7c2 : Code := { maxStack := 4, maxLocals := 6, code := jdk_42_method_149_code, exceptionTable := #[], attributes := #[] }
def k7m2 : Method := { name := "<init>", desc := "([CIILjava/lang/Void;)V", sig := { parameters := [(.array .char), .int, .int, (.object "java/lang/Void")], returnType := none }, accessFlags := 2, code := some k7c2 }
/-- java/lang/String -/
def k7 : Class := { plain "java/lang/String" (some 0) with
  accessFlags := 49
  interfaces := #[2, 3, 4, 5, 6]
  cf := some (fileOf pool7 10 #[.nestMembers #[1103]] #[{ accessFlags := 1, nameIndex := 5, descriptorIndex := 6, attributes := #[] }, { accessFlags := 1, nameIndex := 5, descriptorIndex := 1010, attributes := #[] }, { accessFlags := 2, nameIndex := 5, descriptorIndex := 29, attributes := #[] }] 49 2 #[1106, 1108, 575, 1110, 1112] #[{ accessFlags := 18, nameIndex := 13, descriptorIndex := 14, attributes := #[] }, { accessFlags := 18, nameIndex := 17, descriptorIndex := 18, attributes := #[] }, { accessFlags := 2, nameIndex := 21, descriptorIndex := 22, attributes := #[] }, { accessFlags := 2, nameIndex := 25, descriptorIndex := 26, attributes := #[] }, { accessFlags := 26, nameIndex := 1116, descriptorIndex := 1117, attributes := #[] }, { accessFlags := 24, nameIndex := 40, descriptorIndex := 26, attributes := #[] }, { accessFlags := 26, nameIndex := 1101, descriptorIndex := 1102, attributes := #[] }, { accessFlags := 26, nameIndex := 1121, descriptorIndex := 1122, attributes := #[] }, { accessFlags := 25, nameIndex := 599, descriptorIndex := 600, attributes := #[] }, { accessFlags := 24, nameIndex := 1125, descriptorIndex := 18, attributes := #[] }, { accessFlags := 24, nameIndex := 1127, descriptorIndex := 18, attributes := #[] }])
  fields := #[{ name := "value", type := (.array .byte), accessFlags := 18, slot := 0, constantValue := 0 }, { name := "coder", type := .byte, accessFlags := 18, slot := 1, constantValue := 0 }, { name := "hash", type := .int, accessFlags := 2, slot := 2, constantValue := 0 }, { name := "hashIsZero", type := .boolean, accessFlags := 2, slot := 3, constantValue := 0 }, { name := "serialVersionUID", type := .long, accessFlags := 26, slot := 0, constantValue := 0 }, { name := "COMPACT_STRINGS", type := .boolean, accessFlags := 24, slot := 1, constantValue := 0 }, { name := "serialPersistentFields", type := (.array (.object "java/io/ObjectStreamField")), accessFlags := 26, slot := 2, constantValue := 0 }, { name := "REPL", type := .char, accessFlags := 26, slot := 3, constantValue := 0 }, { name := "CASE_INSENSITIVE_ORDER", type := (.object "java/util/Comparator"), accessFlags := 25, slot := 4, constantValue := 0 }, { name := "LATIN1", type := .byte, accessFlags := 24, slot := 5, constantValue := 0 }, { name := "UTF16", type := .byte, accessFlags := 24, slot := 6, constantValue := 0 }]
  methods := #[k7m0, k7m1, k7m2]
  instanceTypes := #[(.array .byte), .byte, .int, .boolean]
  staticTypes := #[.long, .boolean, (.array (.object "java/io/ObjectStreamField")), .char, (.object "java/util/Comparator"), .byte, .byte]
  resolved := Array.replicate 1451 none
  statics := some 0 }

def pool8 : Array CpInfo := pool [(6, .class_ 8), (1, u "java/lang/Object"), (0, u "<init>"), (0, u "()V"), (1, .class_ 14), (1, u "java/lang/StringUTF16"), (31, u "$assertionsDisabled"), (0, u "Z"), (13, u "HI_BYTE_SHIFT"), (0, u "I"), (2, u "LO_BYTE_SHIFT"), (49, .methodref 12 116), (0, .nameAndType 117 118), (0, u "compress"), (0, u "([CI[BII)I"), (3, u "([CII)[B"), (138, u "coderFromArrayLen"), (0, u "([BI)B"), (106, .class_ 371), (1, u "java/lang/StringUTF16$LinesSpliterator"), (58, u "MAX_LENGTH"), (196, .class_ 628), (0, u "java/lang/StringUTF16$CodePointsSpliterator"), (0, .class_ 630), (0, u "java/lang/StringUTF16$CharsSpliterator")] 4

def k8m0 : Method := { name := "<init>", desc := "()V", sig := { parameters := [], returnType := none }, accessFlags := 0, code := none }
def k8c1 : Code := { maxStack := 2, maxLocals := 2, code := jdk_52_method_15_code, exceptionTable := #[], attributes := #[] }
def k8m1 : Method := { name := "coderFromArrayLen", desc := "([BI)B", sig := { parameters := [(.array .byte), .int], returnType := some .byte }, accessFlags := 8, code := some k8c1 }
def k8c2 : Code := { maxStack := 5, maxLocals := 6, code := jdk_52_method_16_code, exceptionTable := #[], attributes := #[] }
def k8m2 : Method := { name := "compress", desc := "([CII)[B", sig := { parameters := [(.array .char), .int, .int], returnType := some (.array .byte) }, accessFlags := 9, code := some k8c2 }
def k8c3 : Code := { maxStack := 3, maxLocals := 7, code := jdk_52_method_21_code, exceptionTable := #[], attributes := #[] }
def k8m3 : Method := { name := "compress", desc := "([CI[BII)I", sig := { parameters := [(.array .char), .int, (.array .byte), .int, .int], returnType := some .int }, accessFlags := 9, code := some k8c3 }
/-- java/lang/StringUTF16 -/
def k8 : Class := { plain "java/lang/StringUTF16" (some 0) with
  accessFlags := 48
  interfaces := #[]
  cf := some (fileOf pool8 12 #[.nestMembers #[627, 629, 369]] #[{ accessFlags := 0, nameIndex := 9, descriptorIndex := 10, attributes := #[] }, { accessFlags := 8, nameIndex := 261, descriptorIndex := 262, attributes := #[] }, { accessFlags := 9, nameIndex := 117, descriptorIndex := 122, attributes := #[] }, { accessFlags := 9, nameIndex := 117, descriptorIndex := 118, attributes := #[] }] 48 6 #[] #[{ accessFlags := 26, nameIndex := 61, descriptorIndex := 62, attributes := #[] }, { accessFlags := 26, nameIndex := 65, descriptorIndex := 62, attributes := #[] }, { accessFlags := 24, nameIndex := 430, descriptorIndex := 62, attributes := #[] }, { accessFlags := 4120, nameIndex := 46, descriptorIndex := 47, attributes := #[] }])
  fields := #[{ name := "HI_BYTE_SHIFT", type := .int, accessFlags := 26, slot := 0, constantValue := 0 }, { name := "LO_BYTE_SHIFT", type := .int, accessFlags := 26, slot := 1, constantValue := 0 }, { name := "MAX_LENGTH", type := .int, accessFlags := 24, slot := 2, constantValue := 0 }, { name := "$assertionsDisabled", type := .boolean, accessFlags := 4120, slot := 3, constantValue := 0 }]
  methods := #[k8m0, k8m1, k8m2, k8m3]
  instanceTypes := #[]
  staticTypes := #[.int, .int, .int, .boolean]
  resolved := Array.replicate 635 none
  statics := none }

def pool9 : Array CpInfo := pool [(1, .methodref 2 3), (0, .class_ 4), (0, .nameAndType 5 6), (0, u "java/lang/Object"), (0, u "<init>"), (0, u "()V"), (0, .class_ 8), (0, u "com/example/loomport/loomport/loadgen/Latencies"), (0, .methodref 7 3), (0, .fieldref 11 12), (0, .class_ 13), (0, .nameAndType 14 15), (0, u "com/example/loomport/loomport/loadgen/Tally"), (0, u "latencies"), (0, u "Lcom/example/loomport/loomport/loadgen/Latencies;"), (2, u "requests"), (0, u "J"), (2, u "non2xx"), (2, u "octets"), (8, u "connects"), (0, .fieldref 11 36), (0, .nameAndType 37 19), (0, u "errors"), (0, .fieldref 11 39), (0, .nameAndType 40 41), (0, u "firstError"), (0, u "Ljava/lang/String;"), (47, u "error"), (0, u "(Ljava/lang/String;)V"), (1, u "()J"), (0, u "()Ljava/lang/String;")] 4

def k9c0 : Code := { maxStack := 3, maxLocals := 1, code := prog_20_method_1_code, exceptionTable := #[], attributes := #[] }
def k9m0 : Method := { name := "<init>", desc := "()V", sig := { parameters := [], returnType := none }, accessFlags := 0, code := some k9c0 }
def k9c1 : Code := { maxStack := 5, maxLocals := 2, code := prog_20_method_4_code, exceptionTable := #[], attributes := #[] }
def k9m1 : Method := { name := "error", desc := "(Ljava/lang/String;)V", sig := { parameters := [(.object "java/lang/String")], returnType := none }, accessFlags := 0, code := some k9c1 }
def k9c2 : Code := { maxStack := 2, maxLocals := 1, code := prog_20_method_6_code, exceptionTable := #[], attributes := #[] }
def k9m2 : Method := { name := "errors", desc := "()J", sig := { parameters := [], returnType := some .long }, accessFlags := 0, code := some k9c2 }
def k9c3 : Code := { maxStack := 1, maxLocals := 1, code := prog_20_method_7_code, exceptionTable := #[], attributes := #[] }
def k9m3 : Method := { name := "firstError", desc := "()Ljava/lang/String;", sig := { parameters := [], returnType := some (.object "java/lang/String") }, accessFlags := 0, code := some k9c3 }
/-- com/example/loomport/loomport/loadgen/Tally -/
def k9 : Class := { plain "com/example/loomport/loomport/loadgen/Tally" (some 0) with
  accessFlags := 48
  interfaces := #[]
  cf := some (fileOf pool9 11 #[] #[{ accessFlags := 0, nameIndex := 5, descriptorIndex := 6, attributes := #[] }, { accessFlags := 0, nameIndex := 89, descriptorIndex := 90, attributes := #[] }, { accessFlags := 0, nameIndex := 37, descriptorIndex := 92, attributes := #[] }, { accessFlags := 0, nameIndex := 40, descriptorIndex := 93, attributes := #[] }] 48 2 #[] #[{ accessFlags := 2, nameIndex := 18, descriptorIndex := 19, attributes := #[] }, { accessFlags := 2, nameIndex := 37, descriptorIndex := 19, attributes := #[] }, { accessFlags := 2, nameIndex := 22, descriptorIndex := 19, attributes := #[] }, { accessFlags := 2, nameIndex := 34, descriptorIndex := 19, attributes := #[] }, { accessFlags := 2, nameIndex := 25, descriptorIndex := 19, attributes := #[] }, { accessFlags := 18, nameIndex := 14, descriptorIndex := 15, attributes := #[] }, { accessFlags := 2, nameIndex := 40, descriptorIndex := 41, attributes := #[] }])
  fields := #[{ name := "requests", type := .long, accessFlags := 2, slot := 0, constantValue := 0 }, { name := "errors", type := .long, accessFlags := 2, slot := 1, constantValue := 0 }, { name := "non2xx", type := .long, accessFlags := 2, slot := 2, constantValue := 0 }, { name := "connects", type := .long, accessFlags := 2, slot := 3, constantValue := 0 }, { name := "octets", type := .long, accessFlags := 2, slot := 4, constantValue := 0 }, { name := "latencies", type := (.object "com/example/loomport/loomport/loadgen/Latencies"), accessFlags := 18, slot := 5, constantValue := 0 }, { name := "firstError", type := (.object "java/lang/String"), accessFlags := 2, slot := 6, constantValue := 0 }]
  methods := #[k9m0, k9m1, k9m2, k9m3]
  instanceTypes := #[.long, .long, .long, .long, .long, (.object "com/example/loomport/loomport/loadgen/Latencies"), (.object "java/lang/String")]
  staticTypes := #[]
  resolved := Array.replicate 98 none
  statics := none }

def pool10 : Array CpInfo := pool [(1, .class_ 2), (0, u "com/example/loomport/loomport/loadgen/Latencies"), (0, .methodref 4 5), (0, .class_ 6), (0, .nameAndType 7 8), (0, u "java/lang/Object"), (0, u "<init>"), (0, u "()V"), (0, .long 4294967295), (1, .methodref 1 12), (0, .nameAndType 13 14), (0, u "bucket"), (0, u "(J)I"), (0, .fieldref 1 16), (0, .nameAndType 17 18), (0, u "counts"), (0, u "[J"), (11, u "count"), (0, u "J"), (8, .long 4096), (1, .class_ 43), (0, u "java/lang/Long"), (0, .methodref 42 45), (0, .nameAndType 46 14), (0, u "numberOfLeadingZeros"), (0, u "EXACT_BITS"), (0, u "I"), (2, u "EXACT"), (1, u "HALF"), (1, u "MAX")] 10

def k10c0 : Code := { maxStack := 3, maxLocals := 1, code := prog_15_method_1_code, exceptionTable := #[], attributes := #[] }
def k10m0 : Method := { name := "<init>", desc := "()V", sig := { parameters := [], returnType := none }, accessFlags := 0, code := some k10c0 }
def k10c1 : Code := { maxStack := 4, maxLocals := 3, code := prog_15_method_5_code, exceptionTable := #[], attributes := #[] }
def k10m1 : Method := { name := "bucket", desc := "(J)I", sig := { parameters := [.long], returnType := some .int }, accessFlags := 10, code := some k10c1 }
/-- com/example/loomport/loomport/loadgen/Latencies -/
def k10 : Class := { plain "com/example/loomport/loomport/loadgen/Latencies" (some 0) with
  accessFlags := 48
  interfaces := #[]
  cf := some (fileOf pool10 1 #[] #[{ accessFlags := 0, nameIndex := 7, descriptorIndex := 8, attributes := #[] }, { accessFlags := 10, nameIndex := 13, descriptorIndex := 14, attributes := #[] }] 48 4 #[] #[{ accessFlags := 26, nameIndex := 47, descriptorIndex := 48, attributes := #[] }, { accessFlags := 24, nameIndex := 51, descriptorIndex := 48, attributes := #[] }, { accessFlags := 24, nameIndex := 53, descriptorIndex := 48, attributes := #[] }, { accessFlags := 24, nameIndex := 55, descriptorIndex := 31, attributes := #[] }, { accessFlags := 18, nameIndex := 17, descriptorIndex := 18, attributes := #[] }, { accessFlags := 2, nameIndex := 30, descriptorIndex := 31, attributes := #[] }])
  fields := #[{ name := "EXACT_BITS", type := .int, accessFlags := 26, slot := 0, constantValue := 0 }, { name := "EXACT", type := .int, accessFlags := 24, slot := 1, constantValue := 0 }, { name := "HALF", type := .int, accessFlags := 24, slot := 2, constantValue := 0 }, { name := "MAX", type := .long, accessFlags := 24, slot := 3, constantValue := 0 }, { name := "counts", type := (.array .long), accessFlags := 18, slot := 0, constantValue := 0 }, { name := "count", type := .long, accessFlags := 2, slot := 1, constantValue := 0 }]
  methods := #[k10m0, k10m1]
  instanceTypes := #[(.array .long), .long]
  staticTypes := #[.int, .int, .int, .long]
  resolved := Array.replicate 66 none
  statics := none }

def pool11 : Array CpInfo := pool [(2, .class_ 4), (1, u "java/lang/Object"), (0, u "<init>"), (0, u "()V"), (1, .class_ 10), (1, u "java/lang/Number"), (2, .class_ 14), (0, u "java/io/Serializable"), (0, u "serialVersionUID"), (0, u "J")] 20

def k11m0 : Method := { name := "<init>", desc := "()V", sig := { parameters := [], returnType := none }, accessFlags := 1, code := none }
/-- java/lang/Number -/
def k11 : Class := { plain "java/lang/Number" (some 0) with
  accessFlags := 1057
  interfaces := #[2]
  cf := some (fileOf pool11 8 #[] #[{ accessFlags := 1, nameIndex := 5, descriptorIndex := 6, attributes := #[] }] 1057 2 #[13] #[{ accessFlags := 26, nameIndex := 15, descriptorIndex := 16, attributes := #[] }])
  fields := #[{ name := "serialVersionUID", type := .long, accessFlags := 26, slot := 0, constantValue := 0 }]
  methods := #[k11m0]
  instanceTypes := #[]
  staticTypes := #[.long]
  resolved := Array.replicate 37 none
  statics := none }

def pool12 : Array CpInfo := pool [(1, .class_ 2), (0, u "java/lang/Long"), (15, .class_ 20), (1, u "java/lang/Integer"), (79, u "numberOfLeadingZeros"), (0, u "(J)I"), (133, .class_ 237), (1, u "java/lang/Long$LongCache"), (33, .class_ 272), (0, u "java/lang/Number"), (2, u "value"), (0, u "J"), (31, .methodref 18 309), (0, .nameAndType 100 310), (0, u "(I)I"), (50, u "TYPE"), (0, u "Ljava/lang/Class;"), (0, .class_ 364), (0, u "java/lang/Comparable"), (0, .class_ 366), (0, u "java/lang/constant/Constable"), (0, .class_ 368), (0, u "java/lang/constant/ConstantDesc"), (0, u "MIN_VALUE"), (1, u "MAX_VALUE"), (4, u "SIZE"), (0, u "I"), (1, u "BYTES"), (1, u "serialVersionUID")] 142

def k12c0 : Code := { maxStack := 3, maxLocals := 3, code := jdk_35_method_48_code, exceptionTable := #[], attributes := #[] }
def k12m0 : Method := { name := "numberOfLeadingZeros", desc := "(J)I", sig := { parameters := [.long], returnType := some .int }, accessFlags := 9, code := some k12c0 }
/-- java/lang/Long -/
def k12 : Class := { plain "java/lang/Long" (some 11) with
  accessFlags := 49
  interfaces := #[3, 5, 6]
  cf := some (fileOf pool12 1 #[.nestMembers #[235]] #[{ accessFlags := 9, nameIndex := 100, descriptorIndex := 101, attributes := #[] }] 49 271 #[363, 365, 367] #[{ accessFlags := 25, nameIndex := 369, descriptorIndex := 276, attributes := #[] }, { accessFlags := 25, nameIndex := 371, descriptorIndex := 276, attributes := #[] }, { accessFlags := 25, nameIndex := 361, descriptorIndex := 362, attributes := #[] }, { accessFlags := 18, nameIndex := 275, descriptorIndex := 276, attributes := #[] }, { accessFlags := 25, nameIndex := 376, descriptorIndex := 377, attributes := #[] }, { accessFlags := 25, nameIndex := 379, descriptorIndex := 377, attributes := #[] }, { accessFlags := 26, nameIndex := 381, descriptorIndex := 276, attributes := #[] }])
  fields := #[{ name := "MIN_VALUE", type := .long, accessFlags := 25, slot := 0, constantValue := 0 }, { name := "MAX_VALUE", type := .long, accessFlags := 25, slot := 1, constantValue := 0 }, { name := "TYPE", type := (.object "java/lang/Class"), accessFlags := 25, slot := 2, constantValue := 0 }, { name := "value", type := .long, accessFlags := 18, slot := 0, constantValue := 0 }, { name := "SIZE", type := .int, accessFlags := 25, slot := 3, constantValue := 0 }, { name := "BYTES", type := .int, accessFlags := 25, slot := 4, constantValue := 0 }, { name := "serialVersionUID", type := .long, accessFlags := 26, slot := 5, constantValue := 0 }]
  methods := #[k12m0]
  instanceTypes := #[.long]
  staticTypes := #[.long, .long, (.object "java/lang/Class"), .int, .int, .long]
  resolved := Array.replicate 524 none
  statics := none }

def pool13 : Array CpInfo := pool [(1, .class_ 2), (0, u "java/lang/Integer"), (16, u "digits"), (0, u "[C"), (32, u "numberOfLeadingZeros"), (0, u "(I)I"), (30, u "DigitOnes"), (0, u "[B"), (2, u "DigitTens"), (99, .class_ 190), (0, u "java/lang/Integer$IntegerCache"), (3, u "I"), (8, .class_ 204), (0, u "java/lang/Number"), (2, u "value"), (94, u "TYPE"), (0, u "Ljava/lang/Class;"), (0, .class_ 305), (0, u "java/lang/Comparable"), (0, .class_ 307), (0, u "java/lang/constant/Constable"), (0, .class_ 309), (0, u "java/lang/constant/ConstantDesc"), (0, u "MIN_VALUE"), (1, u "MAX_VALUE"), (3, u "SIZE"), (1, u "BYTES"), (1, u "serialVersionUID"), (0, u "J")] 131

def k13c0 : Code := { maxStack := 3, maxLocals := 2, code := jdk_33_method_47_code, exceptionTable := #[], attributes := #[] }
def k13m0 : Method := { name := "numberOfLeadingZeros", desc := "(I)I", sig := { parameters := [.int], returnType := some .int }, accessFlags := 9, code := some k13c0 }
/-- java/lang/Integer -/
def k13 : Class := { plain "java/lang/Integer" (some 11) with
  accessFlags := 49
  interfaces := #[3, 5, 6]
  cf := some (fileOf pool13 1 #[.nestMembers #[189]] #[{ accessFlags := 9, nameIndex := 53, descriptorIndex := 54, attributes := #[] }] 49 203 #[304, 306, 308] #[{ accessFlags := 25, nameIndex := 310, descriptorIndex := 194, attributes := #[] }, { accessFlags := 25, nameIndex := 312, descriptorIndex := 194, attributes := #[] }, { accessFlags := 25, nameIndex := 302, descriptorIndex := 303, attributes := #[] }, { accessFlags := 24, nameIndex := 19, descriptorIndex := 20, attributes := #[] }, { accessFlags := 24, nameIndex := 89, descriptorIndex := 86, attributes := #[] }, { accessFlags := 24, nameIndex := 85, descriptorIndex := 86, attributes := #[] }, { accessFlags := 18, nameIndex := 207, descriptorIndex := 194, attributes := #[] }, { accessFlags := 25, nameIndex := 316, descriptorIndex := 194, attributes := #[] }, { accessFlags := 25, nameIndex := 318, descriptorIndex := 194, attributes := #[] }, { accessFlags := 26, nameIndex := 320, descriptorIndex := 321, attributes := #[] }])
  fields := #[{ name := "MIN_VALUE", type := .int, accessFlags := 25, slot := 0, constantValue := 0 }, { name := "MAX_VALUE", type := .int, accessFlags := 25, slot := 1, constantValue := 0 }, { name := "TYPE", type := (.object "java/lang/Class"), accessFlags := 25, slot := 2, constantValue := 0 }, { name := "digits", type := (.array .char), accessFlags := 24, slot := 3, constantValue := 0 }, { name := "DigitTens", type := (.array .byte), accessFlags := 24, slot := 4, constantValue := 0 }, { name := "DigitOnes", type := (.array .byte), accessFlags := 24, slot := 5, constantValue := 0 }, { name := "value", type := .int, accessFlags := 18, slot := 0, constantValue := 0 }, { name := "SIZE", type := .int, accessFlags := 25, slot := 6, constantValue := 0 }, { name := "BYTES", type := .int, accessFlags := 25, slot := 7, constantValue := 0 }, { name := "serialVersionUID", type := .long, accessFlags := 26, slot := 8, constantValue := 0 }]
  methods := #[k13m0]
  instanceTypes := #[.int]
  staticTypes := #[.int, .int, (.object "java/lang/Class"), (.array .char), (.array .byte), (.array .byte), .int, .int, .long]
  resolved := Array.replicate 453 none
  statics := none }

def pool14 : Array CpInfo := pool [(4, .class_ 6), (1, u "java/lang/Object"), (0, u "<init>"), (0, u "()V"), (5, .class_ 16), (1, u "java/lang/StringLatin1"), (104, u "$assertionsDisabled"), (0, u "Z"), (98, .class_ 223), (1, u "java/lang/StringLatin1$LinesSpliterator"), (166, .class_ 391), (0, u "java/lang/StringLatin1$CharsSpliterator")] 3

def k14m0 : Method := { name := "<init>", desc := "()V", sig := { parameters := [], returnType := none }, accessFlags := 0, code := none }
/-- java/lang/StringLatin1 -/
def k14 : Class := { plain "java/lang/StringLatin1" (some 0) with
  accessFlags := 48
  interfaces := #[]
  cf := some (fileOf pool14 14 #[.nestMembers #[390, 221]] #[{ accessFlags := 0, nameIndex := 7, descriptorIndex := 8, attributes := #[] }] 48 4 #[] #[{ accessFlags := 4120, nameIndex := 121, descriptorIndex := 122, attributes := #[] }])
  fields := #[{ name := "$assertionsDisabled", type := .boolean, accessFlags := 4120, slot := 0, constantValue := 0 }]
  methods := #[k14m0]
  instanceTypes := #[]
  staticTypes := #[.boolean]
  resolved := Array.replicate 395 none
  statics := none }

def pool15 : Array CpInfo := pool [(2, .class_ 4), (1, u "java/lang/Object"), (0, u "<init>"), (0, u "()V"), (17, .class_ 26), (1, u "jdk/internal/util/Preconditions"), (28, .class_ 56), (0, u "jdk/internal/util/Preconditions$4"), (57, .class_ 115), (0, u "jdk/internal/util/Preconditions$1"), (7, u "SIOOBE_FORMATTER"), (0, u "Ljava/util/function/BiFunction;"), (0, .class_ 126), (0, u "jdk/internal/util/Preconditions$2"), (3, u "AIOOBE_FORMATTER"), (0, .class_ 132), (0, u "jdk/internal/util/Preconditions$3"), (3, u "IOOBE_FORMATTER")] 57

def k15m0 : Method := { name := "<init>", desc := "()V", sig := { parameters := [], returnType := none }, accessFlags := 1, code := none }
/-- jdk/internal/util/Preconditions -/
def k15 : Class := { plain "jdk/internal/util/Preconditions" (some 0) with
  accessFlags := 33
  interfaces := #[]
  cf := some (fileOf pool15 24 #[.nestMembers #[55, 131, 125, 114]] #[{ accessFlags := 1, nameIndex := 5, descriptorIndex := 6, attributes := #[] }] 33 2 #[] #[{ accessFlags := 25, nameIndex := 123, descriptorIndex := 124, attributes := #[] }, { accessFlags := 25, nameIndex := 130, descriptorIndex := 124, attributes := #[] }, { accessFlags := 25, nameIndex := 136, descriptorIndex := 124, attributes := #[] }])
  fields := #[{ name := "SIOOBE_FORMATTER", type := (.object "java/util/function/BiFunction"), accessFlags := 25, slot := 0, constantValue := 0 }, { name := "AIOOBE_FORMATTER", type := (.object "java/util/function/BiFunction"), accessFlags := 25, slot := 1, constantValue := 0 }, { name := "IOOBE_FORMATTER", type := (.object "java/util/function/BiFunction"), accessFlags := 25, slot := 2, constantValue := 0 }]
  methods := #[k15m0]
  instanceTypes := #[]
  staticTypes := #[(.object "java/util/function/BiFunction"), (.object "java/util/function/BiFunction"), (.object "java/util/function/BiFunction")]
  resolved := Array.replicate 194 none
  statics := some 1 }

def pool16 : Array CpInfo := pool [(9, u "<init>"), (6, .class_ 18), (1, u "java/lang/Object"), (0, u "()V"), (1, .class_ 23), (1, u "jdk/internal/util/ArraysSupport"), (0, u "LOG2_ARRAY_LONG_INDEX_SCALE"), (0, u "I"), (2, u "U"), (0, u "Ljdk/internal/misc/Unsafe;"), (8, u "BIG_ENDIAN"), (0, u "Z"), (8, u "LOG2_BYTE_BIT_SIZE"), (4, u "LOG2_ARRAY_INT_INDEX_SCALE"), (54, u "JLA"), (0, u "Ljdk/internal/access/JavaLangAccess;"), (11, u "LOG2_ARRAY_BOOLEAN_INDEX_SCALE"), (9, u "LOG2_ARRAY_BYTE_INDEX_SCALE"), (5, u "LOG2_ARRAY_CHAR_INDEX_SCALE"), (5, u "LOG2_ARRAY_SHORT_INDEX_SCALE"), (18, u "LOG2_ARRAY_FLOAT_INDEX_SCALE"), (24, u "LOG2_ARRAY_DOUBLE_INDEX_SCALE"), (89, u "T_BOOLEAN"), (2, u "T_CHAR"), (1, u "T_FLOAT"), (1, u "T_DOUBLE"), (1, u "T_BYTE"), (1, u "T_SHORT"), (1, u "T_INT"), (1, u "T_LONG"), (1, u "SOFT_MAX_ARRAY_LENGTH")] 83

def k16m0 : Method := { name := "<init>", desc := "()V", sig := { parameters := [], returnType := none }, accessFlags := 2, code := none }
/-- jdk/internal/util/ArraysSupport -/
def k16 : Class := { plain "jdk/internal/util/ArraysSupport" (some 0) with
  accessFlags := 33
  interfaces := #[]
  cf := some (fileOf pool16 21 #[] #[{ accessFlags := 2, nameIndex := 9, descriptorIndex := 19, attributes := #[] }] 33 16 #[] #[{ accessFlags := 24, nameIndex := 28, descriptorIndex := 29, attributes := #[] }, { accessFlags := 26, nameIndex := 38, descriptorIndex := 39, attributes := #[] }, { accessFlags := 25, nameIndex := 121, descriptorIndex := 25, attributes := #[] }, { accessFlags := 25, nameIndex := 131, descriptorIndex := 25, attributes := #[] }, { accessFlags := 25, nameIndex := 137, descriptorIndex := 25, attributes := #[] }, { accessFlags := 25, nameIndex := 143, descriptorIndex := 25, attributes := #[] }, { accessFlags := 25, nameIndex := 53, descriptorIndex := 25, attributes := #[] }, { accessFlags := 25, nameIndex := 24, descriptorIndex := 25, attributes := #[] }, { accessFlags := 25, nameIndex := 162, descriptorIndex := 25, attributes := #[] }, { accessFlags := 25, nameIndex := 187, descriptorIndex := 25, attributes := #[] }, { accessFlags := 26, nameIndex := 48, descriptorIndex := 25, attributes := #[] }, { accessFlags := 25, nameIndex := 277, descriptorIndex := 25, attributes := #[] }, { accessFlags := 25, nameIndex := 280, descriptorIndex := 25, attributes := #[] }, { accessFlags := 25, nameIndex := 282, descriptorIndex := 25, attributes := #[] }, { accessFlags := 25, nameIndex := 284, descriptorIndex := 25, attributes := #[] }, { accessFlags := 25, nameIndex := 286, descriptorIndex := 25, attributes := #[] }, { accessFlags := 25, nameIndex := 288, descriptorIndex := 25, attributes := #[] }, { accessFlags := 25, nameIndex := 290, descriptorIndex := 25, attributes := #[] }, { accessFlags := 25, nameIndex := 292, descriptorIndex := 25, attributes := #[] }, { accessFlags := 26, nameIndex := 108, descriptorIndex := 109, attributes := #[] }, { accessFlags := 25, nameIndex := 294, descriptorIndex := 25, attributes := #[] }])
  fields := #[{ name := "U", type := (.object "jdk/internal/misc/Unsafe"), accessFlags := 24, slot := 0, constantValue := 0 }, { name := "BIG_ENDIAN", type := .boolean, accessFlags := 26, slot := 1, constantValue := 0 }, { name := "LOG2_ARRAY_BOOLEAN_INDEX_SCALE", type := .int, accessFlags := 25, slot := 2, constantValue := 0 }, { name := "LOG2_ARRAY_BYTE_INDEX_SCALE", type := .int, accessFlags := 25, slot := 3, constantValue := 0 }, { name := "LOG2_ARRAY_CHAR_INDEX_SCALE", type := .int, accessFlags := 25, slot := 4, constantValue := 0 }, { name := "LOG2_ARRAY_SHORT_INDEX_SCALE", type := .int, accessFlags := 25, slot := 5, constantValue := 0 }, { name := "LOG2_ARRAY_INT_INDEX_SCALE", type := .int, accessFlags := 25, slot := 6, constantValue := 0 }, { name := "LOG2_ARRAY_LONG_INDEX_SCALE", type := .int, accessFlags := 25, slot := 7, constantValue := 0 }, { name := "LOG2_ARRAY_FLOAT_INDEX_SCALE", type := .int, accessFlags := 25, slot := 8, constantValue := 0 }, { name := "LOG2_ARRAY_DOUBLE_INDEX_SCALE", type := .int, accessFlags := 25, slot := 9, constantValue := 0 }, { name := "LOG2_BYTE_BIT_SIZE", type := .int, accessFlags := 26, slot := 10, constantValue := 0 }, { name := "T_BOOLEAN", type := .int, accessFlags := 25, slot := 11, constantValue := 0 }, { name := "T_CHAR", type := .int, accessFlags := 25, slot := 12, constantValue := 0 }, { name := "T_FLOAT", type := .int, accessFlags := 25, slot := 13, constantValue := 0 }, { name := "T_DOUBLE", type := .int, accessFlags := 25, slot := 14, constantValue := 0 }, { name := "T_BYTE", type := .int, accessFlags := 25, slot := 15, constantValue := 0 }, { name := "T_SHORT", type := .int, accessFlags := 25, slot := 16, constantValue := 0 }, { name := "T_INT", type := .int, accessFlags := 25, slot := 17, constantValue := 0 }, { name := "T_LONG", type := .int, accessFlags := 25, slot := 18, constantValue := 0 }, { name := "JLA", type := (.object "jdk/internal/access/JavaLangAccess"), accessFlags := 26, slot := 19, constantValue := 0 }, { name := "SOFT_MAX_ARRAY_LENGTH", type := .int, accessFlags := 25, slot := 20, constantValue := 0 }]
  methods := #[k16m0]
  instanceTypes := #[]
  staticTypes := #[(.object "jdk/internal/misc/Unsafe"), .boolean, .int, .int, .int, .int, .int, .int, .int, .int, .int, .int, .int, .int, .int, .int, .int, .int, .int, (.object "jdk/internal/access/JavaLangAccess"), .int]
  resolved := Array.replicate 378 none
  statics := none }

def pool17 : Array CpInfo := pool [(1, u "java/lang/Cloneable"), (0, .class_ 1), (0, u "java/lang/Object"), (0, .class_ 3)] 3

/-- java/lang/Cloneable -/
def k17 : Class := { plain "java/lang/Cloneable" (some 0) with
  accessFlags := 1537
  interfaces := #[]
  cf := some (fileOf pool17 2 #[] #[] 1537 4 #[] #[])
  fields := #[]
  methods := #[]
  instanceTypes := #[]
  staticTypes := #[]
  resolved := Array.replicate 8 none
  statics := none }

/-- the primitive byte -/
def k18 : Class := { plain "byte" none with kind := .primitive 'B', accessFlags := 0x411 }
/-- [B -/
def k19 : Class := { plain "[B" (some 0) with kind := .array 18 .byte, interfaces := #[17, 2], accessFlags := 1041 }

/-- the primitive char -/
def k20 : Class := { plain "char" none with kind := .primitive 'C', accessFlags := 0x411 }
/-- [C -/
def k21 : Class := { plain "[C" (some 0) with kind := .array 20 .char, interfaces := #[17, 2], accessFlags := 1041 }

/-- the primitive int -/
def k22 : Class := { plain "int" none with kind := .primitive 'I', accessFlags := 0x411 }
/-- [I -/
def k23 : Class := { plain "[I" (some 0) with kind := .array 22 .int, interfaces := #[17, 2], accessFlags := 1041 }

/-- the primitive long -/
def k24 : Class := { plain "long" none with kind := .primitive 'J', accessFlags := 0x411 }
/-- [J -/
def k25 : Class := { plain "[J" (some 0) with kind := .array 24 .long, interfaces := #[17, 2], accessFlags := 1041 }

def heap : Heap := #[{ cls := 7, slots := #[.long 0, .int 1, .null, .int 0, .null, .int 0, .int 0], vm := .statics 7 },
  { cls := 15, slots := #[.null, .null, .null], vm := .statics 15 }]
def classes : Array Class := #[k0, k1, k2, k3, k4, k5, k6, k7, k8, k9, k10, k11, k12, k13, k14, k15, k16, k17, k18, k19, k20, k21, k22, k23, k24, k25]
def interned : List (Array UInt16 × Addr) := []
def slotsUsed : Nat := 10
def theMethod : MethodId := ⟨1, 1⟩
def args0 : Array Value := #[.int 2, .int 65, .int 66, .int 67]
def aboutOver (below : List Frame) : State where
  vm := { classes := classes, interned := interned.toArray }
  heap := heap
  slotsUsed := slotsUsed
  threads := #[{ frames := .invoking theMethod args0 :: below }]
def below0 : List Frame := [.native { method := ⟨0, 0⟩, args := #[] }]
def about1 : State := aboutOver below0
def p0 : Program := .bare "" "" ""
def e0 : Env := launch0.env 0 0 0
theorem w_frames : about1.frames = Frame.invoking theMethod args0 :: below0 := rfl
set_option maxRecDepth 65536 in
theorem w_args : argsFit about1.vm theMethod args0 = true := by decide +kernel
set_option maxRecDepth 65536 in
theorem w_heap : heapFits about1 = true := by decide +kernel
set_option maxRecDepth 65536 in
theorem w_runnable : about1.curStatus? = some .runnable := by decide +kernel
set_option maxRecDepth 65536 in
theorem w_alone : about1.alone = true := by decide +kernel
set_option maxRecDepth 65536 in
theorem w_named : about1.methodNamed? x = some theMethod := by decide +kernel
set_option maxRecDepth 65536 in
theorem w_hears : about1.hears theMethod below0 = true := by decide +kernel
set_option maxRecDepth 65536 in
theorem w_ripe : about1.ripe theMethod args0 below0 = true := by decide +kernel
theorem w_running : about1.status = .running := rfl
set_option maxRecDepth 65536 in
theorem w_room : about1.hasRoom e0.platform room_1 = true :=
  launch0.hasRoom_least _ room_1 (by decide +kernel) (by decide +kernel) (by decide +kernel) (by decide +kernel) (by decide +kernel) (by decide +kernel)
theorem allAtoms_all (ts : List Jvm.Cond) (a : Array Jvm.Value) (st : Jvm.State) : (allAtoms ts).before a st = ts.all (fun c => c.before a st) := by
  induction ts with
  | nil => rfl
  | cons c t ih =>
    show (Jvm.Cond.and c (allAtoms t)).before a st = _
    rw [Jvm.Cond.before_and, ih, List.all_cons]
def words1 : List Jvm.Cond := Jvm.Cond.code x code maxLocals ret :: tables_1
/-- a 'code' word, met by the world's own term for the bytes: nothing is compared byte by byte -/
theorem code_word {y : MethodName} {bytes : ByteArray} {mx : Nat} {rt : Option FieldType} {a : Array Value} {s : State} {m : MethodId} {meth : Method} {c : Code} (h1 : s.methodNamed? y = some m) (h2 : s.vm.method? m = some meth) (h3 : meth.code = some c) (h4 : c.code = bytes)
    (h5 : (c.maxLocals == mx && c.exceptionTable.isEmpty && decide (c.maxStack ≤ mostOperands) && decide (meth.sig.returnType = rt) && !meth.locks && decide (parseMethodDescriptor y.desc = some meth.sig)) = true) : (Jvm.Cond.code y bytes mx rt).before a s = true := by
  simp only [Bool.and_eq_true, beq_iff_eq, Bool.not_eq_true', decide_eq_true_eq] at h5
  obtain ⟨⟨⟨⟨⟨g1, g2⟩, g3⟩, g4⟩, g5⟩, g6⟩ := h5
  simp [Cond.before, Cond.holds, Cond.value, h1, h2, h3, h4, g1, g2, g3, g4, g5, g6]
def isCode : Jvm.Cond → Bool
  | .code _ _ _ _ => true
  | _ => false
theorem all_split {L : List Jvm.Cond} {P : Jvm.Cond → Bool} (h1 : L.all (fun c => isCode c || P c) = true) (h2 : ∀ c ∈ L.filter isCode, P c = true) : L.all P = true := by
  refine List.all_eq_true.mpr fun c hc => ?_
  have h := List.all_eq_true.mp h1 c hc
  rcases Bool.eq_false_or_eq_true (isCode c) with hi | hi
  · exact h2 c (List.mem_filter.mpr ⟨hc, hi⟩)
  · simpa [hi] using h
set_option maxRecDepth 65536 in
theorem w_c0 : (Jvm.Cond.code x code maxLocals ret).before args0 about1 = true := code_word (m := ⟨1, 1⟩) (meth := k1m1) (c := k1c1) (by decide +kernel) rfl rfl rfl (by decide +kernel)
set_option maxRecDepth 65536 in
theorem w_c1 : (Jvm.Cond.code ({ cls := "java/lang/String", name := "<init>", desc := "([C)V" } : Jvm.MethodName) jdk_42_method_3_code (2 : Nat) (Option.none : Option Jvm.ClassFile.FieldType)).before args0 about1 = true := code_word (m := ⟨7, 1⟩) (meth := k7m1) (c := k7c1) (by decide +kernel) rfl rfl rfl (by decide +kernel)
set_option maxRecDepth 65536 in
theorem w_c2 : (Jvm.Cond.code ({ cls := "java/lang/String", name := "<init>", desc := "([CIILjava/lang/Void;)V" } : Jvm.MethodName) jdk_42_method_149_code (6 : Nat) (Option.none : Option Jvm.ClassFile.FieldType)).before args0 about1 = true := code_word (m := ⟨7, 2⟩) (meth := k7m2) (c := k7c2) (by decide +kernel) rfl rfl rfl (by decide +kernel)
set_option maxRecDepth 65536 in
theorem w_c3 : (Jvm.Cond.code ({ cls := "java/lang/Object", name := "<init>", desc := "()V" } : Jvm.MethodName) object_method_1_code (1 : Nat) (Option.none : Option Jvm.ClassFile.FieldType)).before args0 about1 = true := code_word (m := ⟨0, 0⟩) (meth := k0m0) (c := k0c0) (by decide +kernel) rfl rfl rfl (by decide +kernel)
set_option maxRecDepth 65536 in
theorem w_c4 : (Jvm.Cond.code ({ cls := "java/lang/StringUTF16", name := "compress", desc := "([CII)[B" } : Jvm.MethodName) jdk_52_method_16_code (6 : Nat) (Option.some (Jvm.ClassFile.FieldType.array Jvm.ClassFile.FieldType.byte))).before args0 about1 = true := code_word (m := ⟨8, 2⟩) (meth := k8m2) (c := k8c2) (by decide +kernel) rfl rfl rfl (by decide +kernel)
set_option maxRecDepth 65536 in
theorem w_c5 : (Jvm.Cond.code ({ cls := "java/lang/StringUTF16", name := "compress", desc := "([CI[BII)I" } : Jvm.MethodName) jdk_52_method_21_code (7 : Nat) (Option.some Jvm.ClassFile.FieldType.int)).before args0 about1 = true := code_word (m := ⟨8, 3⟩) (meth := k8m3) (c := k8c3) (by decide +kernel) rfl rfl rfl (by decide +kernel)
set_option maxRecDepth 65536 in
theorem w_c6 : (Jvm.Cond.code ({ cls := "java/lang/StringUTF16", name := "coderFromArrayLen", desc := "([BI)B" } : Jvm.MethodName) jdk_52_method_15_code (2 : Nat) (Option.some Jvm.ClassFile.FieldType.byte)).before args0 about1 = true := code_word (m := ⟨8, 1⟩) (meth := k8m1) (c := k8c1) (by decide +kernel) rfl rfl rfl (by decide +kernel)
set_option maxRecDepth 65536 in
theorem w_c7 : (Jvm.Cond.code ({ cls := "com/example/loomport/loomport/loadgen/Tally", name := "<init>", desc := "()V" } : Jvm.MethodName) prog_20_method_1_code (1 : Nat) (Option.none : Option Jvm.ClassFile.FieldType)).before args0 about1 = true := code_word (m := ⟨9, 0⟩) (meth := k9m0) (c := k9c0) (by decide +kernel) rfl rfl rfl (by decide +kernel)
set_option maxRecDepth 65536 in
theorem w_c8 : (Jvm.Cond.code ({ cls := "com/example/loomport/loomport/loadgen/Latencies", name := "<init>", desc := "()V" } : Jvm.MethodName) prog_15_method_1_code (1 : Nat) (Option.none : Option Jvm.ClassFile.FieldType)).before args0 about1 = true := code_word (m := ⟨10, 0⟩) (meth := k10m0) (c := k10c0) (by decide +kernel) rfl rfl rfl (by decide +kernel)
set_option maxRecDepth 65536 in
theorem w_c9 : (Jvm.Cond.code ({ cls := "com/example/loomport/loomport/loadgen/Latencies", name := "bucket", desc := "(J)I" } : Jvm.MethodName) prog_15_method_5_code (3 : Nat) (Option.some Jvm.ClassFile.FieldType.int)).before args0 about1 = true := code_word (m := ⟨10, 1⟩) (meth := k10m1) (c := k10c1) (by decide +kernel) rfl rfl rfl (by decide +kernel)
set_option maxRecDepth 65536 in
theorem w_c10 : (Jvm.Cond.code ({ cls := "java/lang/Long", name := "numberOfLeadingZeros", desc := "(J)I" } : Jvm.MethodName) jdk_35_method_48_code (3 : Nat) (Option.some Jvm.ClassFile.FieldType.int)).before args0 about1 = true := code_word (m := ⟨12, 0⟩) (meth := k12m0) (c := k12c0) (by decide +kernel) rfl rfl rfl (by decide +kernel)
set_option maxRecDepth 65536 in
theorem w_c11 : (Jvm.Cond.code ({ cls := "java/lang/Integer", name := "numberOfLeadingZeros", desc := "(I)I" } : Jvm.MethodName) jdk_33_method_47_code (2 : Nat) (Option.some Jvm.ClassFile.FieldType.int)).before args0 about1 = true := code_word (m := ⟨13, 0⟩) (meth := k13m0) (c := k13c0) (by decide +kernel) rfl rfl rfl (by decide +kernel)
set_option maxRecDepth 65536 in
theorem w_c12 : (Jvm.Cond.code ({ cls := "com/example/loomport/loomport/loadgen/Tally", name := "errors", desc := "()J" } : Jvm.MethodName) prog_20_method_6_code (1 : Nat) (Option.some Jvm.ClassFile.FieldType.long)).before args0 about1 = true := code_word (m := ⟨9, 2⟩) (meth := k9m2) (c := k9c2) (by decide +kernel) rfl rfl rfl (by decide +kernel)
set_option maxRecDepth 65536 in
theorem w_c13 : (Jvm.Cond.code ({ cls := "com/example/loomport/loomport/loadgen/Tally", name := "firstError", desc := "()Ljava/lang/String;" } : Jvm.MethodName) prog_20_method_7_code (1 : Nat) (Option.some (Jvm.ClassFile.FieldType.object "java/lang/String"))).before args0 about1 = true := code_word (m := ⟨9, 3⟩) (meth := k9m3) (c := k9c3) (by decide +kernel) rfl rfl rfl (by decide +kernel)
set_option maxRecDepth 65536 in
theorem w_c14 : (Jvm.Cond.code ({ cls := "com/example/loomport/loomport/loadgen/Tally", name := "error", desc := "(Ljava/lang/String;)V" } : Jvm.MethodName) prog_20_method_4_code (2 : Nat) (Option.none : Option Jvm.ClassFile.FieldType)).before args0 about1 = true := code_word (m := ⟨9, 1⟩) (meth := k9m1) (c := k9c1) (by decide +kernel) rfl rfl rfl (by decide +kernel)
def codes1 : List Jvm.Cond := [Jvm.Cond.code x code maxLocals ret, Jvm.Cond.code ({ cls := "java/lang/String", name := "<init>", desc := "([C)V" } : Jvm.MethodName) jdk_42_method_3_code (2 : Nat) (Option.none : Option Jvm.ClassFile.FieldType), Jvm.Cond.code ({ cls := "java/lang/String", name := "<init>", desc := "([CIILjava/lang/Void;)V" } : Jvm.MethodName) jdk_42_method_149_code (6 : Nat) (Option.none : Option Jvm.ClassFile.FieldType), Jvm.Cond.code ({ cls := "java/lang/Object", name := "<init>", desc := "()V" } : Jvm.MethodName) object_method_1_code (1 : Nat) (Option.none : Option Jvm.ClassFile.FieldType), Jvm.Cond.code ({ cls := "java/lang/StringUTF16", name := "compress", desc := "([CII)[B" } : Jvm.MethodName) jdk_52_method_16_code (6 : Nat) (Option.some (Jvm.ClassFile.FieldType.array Jvm.ClassFile.FieldType.byte)), Jvm.Cond.code ({ cls := "java/lang/StringUTF16", name := "compress", desc := "([CI[BII)I" } : Jvm.MethodName) jdk_52_method_21_code (7 : Nat) (Option.some Jvm.ClassFile.FieldType.int), Jvm.Cond.code ({ cls := "java/lang/StringUTF16", name := "coderFromArrayLen", desc := "([BI)B" } : Jvm.MethodName) jdk_52_method_15_code (2 : Nat) (Option.some Jvm.ClassFile.FieldType.byte), Jvm.Cond.code ({ cls := "com/example/loomport/loomport/loadgen/Tally", name := "<init>", desc := "()V" } : Jvm.MethodName) prog_20_method_1_code (1 : Nat) (Option.none : Option Jvm.ClassFile.FieldType), Jvm.Cond.code ({ cls := "com/example/loomport/loomport/loadgen/Latencies", name := "<init>", desc := "()V" } : Jvm.MethodName) prog_15_method_1_code (1 : Nat) (Option.none : Option Jvm.ClassFile.FieldType), Jvm.Cond.code ({ cls := "com/example/loomport/loomport/loadgen/Latencies", name := "bucket", desc := "(J)I" } : Jvm.MethodName) prog_15_method_5_code (3 : Nat) (Option.some Jvm.ClassFile.FieldType.int), Jvm.Cond.code ({ cls := "java/lang/Long", name := "numberOfLeadingZeros", desc := "(J)I" } : Jvm.MethodName) jdk_35_method_48_code (3 : Nat) (Option.some Jvm.ClassFile.FieldType.int), Jvm.Cond.code ({ cls := "java/lang/Integer", name := "numberOfLeadingZeros", desc := "(I)I" } : Jvm.MethodName) jdk_33_method_47_code (2 : Nat) (Option.some Jvm.ClassFile.FieldType.int), Jvm.Cond.code ({ cls := "com/example/loomport/loomport/loadgen/Tally", name := "errors", desc := "()J" } : Jvm.MethodName) prog_20_method_6_code (1 : Nat) (Option.some Jvm.ClassFile.FieldType.long), Jvm.Cond.code ({ cls := "com/example/loomport/loomport/loadgen/Tally", name := "firstError", desc := "()Ljava/lang/String;" } : Jvm.MethodName) prog_20_method_7_code (1 : Nat) (Option.some (Jvm.ClassFile.FieldType.object "java/lang/String")), Jvm.Cond.code ({ cls := "com/example/loomport/loomport/loadgen/Tally", name := "error", desc := "(Ljava/lang/String;)V" } : Jvm.MethodName) prog_20_method_4_code (2 : Nat) (Option.none : Option Jvm.ClassFile.FieldType)]
set_option maxRecDepth 65536 in
theorem codes_eq : words1.filter isCode = codes1 := rfl
theorem w_codes : ∀ c ∈ words1.filter isCode, c.before args0 about1 = true := by
  rw [codes_eq]
  intro c hc
  simp only [codes1, List.mem_cons, List.not_mem_nil, or_false] at hc
  rcases hc with rfl | rfl | rfl | rfl | rfl | rfl | rfl | rfl | rfl | rfl | rfl | rfl | rfl | rfl | rfl
  · exact w_c0
  · exact w_c1
  · exact w_c2
  · exact w_c3
  · exact w_c4
  · exact w_c5
  · exact w_c6
  · exact w_c7
  · exact w_c8
  · exact w_c9
  · exact w_c10
  · exact w_c11
  · exact w_c12
  · exact w_c13
  · exact w_c14
set_option maxRecDepth 65536 in
theorem w_t1 : (words1.take 24).all (fun c => isCode c || c.before args0 about1) = true := by decide +kernel
set_option maxRecDepth 65536 in
theorem w_t2 : ((words1.drop 24).take 24).all (fun c => isCode c || c.before args0 about1) = true := by decide +kernel
set_option maxRecDepth 65536 in
theorem w_t3 : (((words1.drop 24).drop 24).take 24).all (fun c => isCode c || c.before args0 about1) = true := by decide +kernel
set_option maxRecDepth 65536 in
theorem w_t4 : (((words1.drop 24).drop 24).drop 24).all (fun c => isCode c || c.before args0 about1) = true := by decide +kernel
theorem w_tables : (allAtoms (Jvm.Cond.code x code maxLocals ret :: tables_1)).before args0 about1 = true := by
  rw [allAtoms_all]
  show words1.all (fun c => c.before args0 about1) = true
  refine all_split ?_ w_codes
  rw [← List.take_append_drop 24 words1, List.all_append, w_t1, ← List.take_append_drop 24 (words1.drop 24), List.all_append, w_t2, ← List.take_append_drop 24 ((words1.drop 24).drop 24), List.all_append, w_t3, w_t4]
  rfl
set_option maxRecDepth 65536 in
theorem w_rest : rest_1_c.before args0 about1 = true := by decide +kernel
set_option maxRecDepth 65536 in
theorem w_case : (Jvm.Cond.and given_1 narrow_1).before args0 about1 = true := by decide +kernel
theorem w_applies : (headSpec (Jvm.Cond.code x code maxLocals ret :: tables_1) room_1).applies x e0.platform about1 = true :=
  (Spec.applies_iff w_frames).mpr ⟨w_running, w_runnable, w_alone, w_named, w_hears, w_ripe, w_room, w_tables⟩
theorem atStart : AtStart classFile x code maxLocals ret World_1 tables_1 room_1 Calls_1 rest_1 Pre_1 launch0 p0 e0 about1 theMethod args0 below0 :=
  ⟨lists_1, trivial, launch0.admits_env _ _ _, launch0.least_env, fairChoices_fair.cas, fairChoices_fair.clock, w_frames, w_args, w_heap, w_applies, trivial, w_rest, w_case⟩
end start1
theorem witness_1 : WitnessClaimed_1 := ⟨start1.p0, start1.e0, start1.about1, start1.theMethod, start1.args0, start1.below0, start1.atStart⟩
end Jvm.Pilot.@@N@@
