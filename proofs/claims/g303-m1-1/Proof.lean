import JvmDerived
import JvmDerived.Pilot.@@N@@Statement
import JvmDerived.Pilot.@@N@@Code
set_option linter.unusedVariables false
set_option linter.unusedSimpArgs false
namespace Jvm.RoadKit
open Sem ClassFile Op Lib Jvm.Stand Jvm.Free Jvm.LawKit
section New
variable {p : Program} {l : Launch} {e : Env} {R : Room} {s : State} {m : MethodId} {args : Array Value} {below : List Frame} {meth : Method} {c : Code} {T : State} {locs : List Loc} {cells slots : Nat}
theorem retI (X : Stand p l e R s m args below meth c T locs cells slots) (hx : p.tables.exec = Jvm.exec) {pc : Nat} {Ls : Array Slot} {z : Int32} {rest : List Value} (hret : meth.sig.returnType = some .int) (hd : decode c.code pc = .ok (.ireturn, 1)) {fs : List Frame}
    (hl : ∀ (f : JFrame) (acts : List Action), f.method = m → f.locked = none → f.entered = [] → (doReturn e (T.setTop f) acts (some (.int z))).1 = T.setFrames fs) : Steps p.tables e below (T.setTop (mkF m pc Ls (.int z :: rest))) (T.setFrames fs) := by
  have hm' : T.vm.method? m = some meth := X.method'
  have hn : narrow .int (.int z) = .int z := rfl
  show Steps p.tables e below (T.setTop { method := m, pc := pc, locals := Ls, stack := _ :: rest, locked := none }) _
  jvm_step X.here [X.here.top, hx, hd, hm', hret, hn]
  first | (intro acts; rw [hl _ acts rfl rfl rfl]) | rw [hl _ _ rfl rfl rfl]
  exact Steps.refl _
/-- from the state A the body comes to its end, and what it leaves is Q's -/
def Go (tb : Tables) (e : Env) (below : List Frame) (s : State) (Q : Option Value → Heap → List Loc → Prop) (k n : Nat) (A : State) : Prop :=
  ∃ s₂ o, Steps tb e below A s₂ ∧ s₂.status = .running ∧ Ended s₂ below o ∧ ∃ v L, o = .returned v ∧ Q v s₂.heap L ∧ FrameEnd s o s₂ L k n
theorem Go.on {tb : Tables} {Q : Option Value → Heap → List Loc → Prop} {k n : Nat} {A B : State} (h : ∀ t, Steps tb e below B t → Steps tb e below A t) (g : Go tb e below s Q k n B) : Go tb e below s Q k n A := by
  obtain ⟨s₂, o, h1, h2⟩ := g
  exact ⟨s₂, o, h _ h1, h2⟩
theorem Go.via {tb : Tables} {Q : Option Value → Heap → List Loc → Prop} {k n : Nat} {A B : State} (h : Steps tb e below A B) (g : Go tb e below s Q k n B) : Go tb e below s Q k n A := by
  obtain ⟨s₂, o, h1, h2⟩ := g
  exact ⟨s₂, o, h.trans h1, h2⟩
theorem Go.retN (X : Stand p l e R s m args below meth c T locs cells slots) (hx : p.tables.exec = Jvm.exec) (hlk : meth.locks = false) {Q : Option Value → Heap → List Loc → Prop} {k n : Nat} {pc : Nat} {Ls : Array Slot} {z : Int32} {t : FieldType} {rest : List Value} (hret : meth.sig.returnType = some t) (ht : t = .boolean ∨ t = .byte ∨ t = .char ∨ t = .short)
    (hd : decode c.code pc = .ok (.ireturn, 1)) (hk : cells ≤ k) (hn : slots ≤ n) {h : Heap} (eT : T.heap = h) (q : Q (some (.int (nar t z))) h locs) : Go p.tables e below s Q k n (T.setTop (mkF m pc Ls (.int z :: rest))) := by
  obtain ⟨fs, hr, hrun, hended, hW, hsame⟩ := X.leave (v := some (.int (nar t z))) (fun h => by rw [hret] at h; cases h) hlk
  subst eT
  exact ⟨_, _, Jvm.RoadKit.retN X hx hret ht hd hr, hrun, hended, _, _, rfl, q, ⟨_, rfl⟩, hW, hsame.mono hk hn⟩
theorem Go.retI (X : Stand p l e R s m args below meth c T locs cells slots) (hx : p.tables.exec = Jvm.exec) (hlk : meth.locks = false) {Q : Option Value → Heap → List Loc → Prop} {k n : Nat} {pc : Nat} {Ls : Array Slot} {z : Int32} {rest : List Value} (hret : meth.sig.returnType = some .int)
    (hd : decode c.code pc = .ok (.ireturn, 1)) (hk : cells ≤ k) (hn : slots ≤ n) {h : Heap} (eT : T.heap = h) (q : Q (some (.int z)) h locs) : Go p.tables e below s Q k n (T.setTop (mkF m pc Ls (.int z :: rest))) := by
  obtain ⟨fs, hr, hrun, hended, hW, hsame⟩ := X.leave (v := some (.int z)) (fun h => by rw [hret] at h; cases h) hlk
  subst eT
  exact ⟨_, _, Jvm.RoadKit.retI X hx hret hd hr, hrun, hended, _, _, rfl, q, ⟨_, rfl⟩, hW, hsame.mono hk hn⟩
theorem Go.retJ (X : Stand p l e R s m args below meth c T locs cells slots) (hx : p.tables.exec = Jvm.exec) (hlk : meth.locks = false) {Q : Option Value → Heap → List Loc → Prop} {k n : Nat} {pc : Nat} {Ls : Array Slot} {z : Int64} (hret : meth.sig.returnType = some .long)
    (hd : decode c.code pc = .ok (.lreturn, 1)) (hk : cells ≤ k) (hn : slots ≤ n) {h : Heap} (eT : T.heap = h) (q : Q (some (.long z)) h locs) : Go p.tables e below s Q k n (T.setTop (mkF m pc Ls [.long z])) := by
  obtain ⟨fs, hr, hrun, hended, hW, hsame⟩ := X.leave (v := some (.long z)) (fun h => by rw [hret] at h; cases h) hlk
  subst eT
  exact ⟨_, _, X.lreturnOut hx hret hd hr, hrun, hended, _, _, rfl, q, ⟨_, rfl⟩, hW, hsame.mono hk hn⟩
theorem Go.retA (X : Stand p l e R s m args below meth c T locs cells slots) (hx : p.tables.exec = Jvm.exec) (hlk : meth.locks = false) {Q : Option Value → Heap → List Loc → Prop} {k n : Nat} {pc : Nat} {Ls : Array Slot} {w : Value} {t : FieldType} (hw : w.isRef = true) (hret : meth.sig.returnType = some t) (ht : t.isReference = true)
    (hd : decode c.code pc = .ok (.areturn, 1)) (hk : cells ≤ k) (hn : slots ≤ n) {h : Heap} (eT : T.heap = h) (q : Q (some w) h locs) : Go p.tables e below s Q k n (T.setTop (mkF m pc Ls [w])) := by
  obtain ⟨fs, hr, hrun, hended, hW, hsame⟩ := X.leave (v := some w) (fun h => by rw [hret] at h; cases h) hlk
  subst eT
  exact ⟨_, _, X.areturnOut hx hw hret ht hd hr, hrun, hended, _, _, rfl, q, ⟨_, rfl⟩, hW, hsame.mono hk hn⟩
theorem Go.retV (X : Stand p l e R s m args below meth c T locs cells slots) (hx : p.tables.exec = Jvm.exec) (hlk : meth.locks = false) {Q : Option Value → Heap → List Loc → Prop} {k n : Nat} {pc : Nat} {Ls : Array Slot} (hret : meth.sig.returnType = none)
    (hd : decode c.code pc = .ok (.return_, 1)) (hk : cells ≤ k) (hn : slots ≤ n) {h : Heap} (eT : T.heap = h) (q : Q none h locs) : Go p.tables e below s Q k n (T.setTop (mkF m pc Ls [])) := by
  obtain ⟨fs, hr, hrun, hended, hW, hsame⟩ := X.leave (v := none) (fun _ => rfl) hlk
  subst eT
  exact ⟨_, _, X.returnOut hx hret hd hr, hrun, hended, _, _, rfl, q, ⟨_, rfl⟩, hW, hsame.mono hk hn⟩
end New
end Jvm.RoadKit
namespace Jvm.Pilot.@@N@@
open Jvm Jvm.ClassFile Sem Op Lib Jvm.Free Jvm.Stand Jvm.LawKit Jvm.RoadKit Bundle Jvm.Pilot.@@N@@.Jvm.D

theorem own_toInt {n : Nat} (h : n < 2147483648) : (Int32.ofNat n).toInt = n := Int32.toInt_ofNat_of_lt h
theorem own_rng (x : Int32) : -2147483648 ≤ x.toInt ∧ x.toInt < 2147483648 := ⟨Int32.le_toInt x, Int32.toInt_lt x⟩
theorem own_rngL (x : Int64) : -9223372036854775808 ≤ x.toInt ∧ x.toInt < 9223372036854775808 := ⟨Int64.le_toInt x, Int64.toInt_lt x⟩
/-- an int that is n, read modulo 2^32 -/
theorem own_of (x : Int32) (n : Nat) (hn : n < 2147483648) (h : (x.toInt - n) % 4294967296 = 0) : x = Int32.ofNat n := by
  apply Int32.toInt_inj.mp
  rw [own_toInt hn]
  have := own_rng x
  omega
theorem own_lt {i n : Nat} (hi : i < 2147483648) (hn : n < 2147483648) : Int32.ofNat i < Int32.ofNat n ↔ i < n := by
  rw [Int32.lt_iff_toInt_lt, own_toInt hi, own_toInt hn]; omega
theorem own_add (a b : Nat) : Int32.ofNat a + Int32.ofNat b = Int32.ofNat (a + b) := (Int32.ofNat_add a b).symm
theorem own_clamp {n : Nat} (h : n < 2147483648) : (Int32.ofNat n).toNatClampNeg = n := by simp [Int32.toNatClampNeg, own_toInt h]
theorem own_toIntL {n : Nat} (h : n < 4294967296) : (Int64.ofNat n).toInt = n := Int64.toInt_ofNat_of_lt (by omega)
theorem own_l2i {u : Nat} (h : u < 4294967296) : ((Int64.ofNat u).toInt32.toInt - u) % 4294967296 = 0 := by
  have q := c_l2i (Int64.ofNat u)
  rw [own_toIntL h] at q; exact q
/-- a natural as an int, wrapped -/
theorem own_l2iEq {u : Nat} : (Int64.ofNat u).toInt32 = Int32.ofNat u := Int64.toInt32_ofNat
theorem own_wrap (u : Nat) : ((Int32.ofNat u).toInt - u) % 4294967296 = 0 := by
  rw [Int32.toInt_ofNat']; exact bm32 _
theorem own_hi {u : Nat} (h : u < 4294967296) : ((((Int64.ofNat u).toUInt64 >>> ((32 : Int32) &&& 0x3f).toInt64.toUInt64).toInt64).toInt32) = 0 := by
  have q := c_lushr (Int64.ofNat u) 32 32 (by decide) (by decide)
  rw [own_toIntL h] at q
  have q2 := c_l2i (((Int64.ofNat u).toUInt64 >>> ((32 : Int32) &&& 0x3f).toInt64.toUInt64).toInt64)
  rw [q] at q2
  have q3 := own_rng ((((Int64.ofNat u).toUInt64 >>> ((32 : Int32) &&& 0x3f).toInt64.toUInt64).toInt64).toInt32)
  apply Int32.toInt_inj.mp
  show _ = (0 : Int)
  have e : ((2 ^ 32 : Nat) : Int) = 4294967296 := by decide
  rw [e] at q2
  omega
theorem own_dec {e b : Nat} (h : e + b ≤ 31) (y : Int32) (hy : y.toInt = -b) : Int32.ofNat (31 - e) + y = Int32.ofNat (31 - (e + b)) := by
  refine own_of _ _ (by omega) ?_
  have q := c_iadd (Int32.ofNat (31 - e)) y
  rw [own_toInt (by omega), hy] at q
  omega
theorem own_ush {x : Nat} (hx : x < 2147483648) (y : Int32) (k : Nat) (hk : y.toBitVec.toNat % 32 = k) (h0 : 0 < k) : (((Int32.ofNat x).toUInt32 >>> (y &&& 31).toUInt32).toInt32) = Int32.ofNat (x / 2 ^ k) := by
  have hd : x / 2 ^ k ≤ x := Nat.div_le_self _ _
  refine own_of _ _ (by omega) ?_
  rw [c_iushr (Int32.ofNat x) y k hk h0, own_toInt hx]
  have e : ((x : Int) % 4294967296) = x := by omega
  rw [e, ← Int.natCast_ediv]; omega
theorem own_log1 {u e : Nat} (h : u / 2 ^ e = 1) : Nat.log2 u = e := by
  have hp : 0 < 2 ^ e := Nat.two_pow_pos e
  have hm := Nat.div_add_mod u (2 ^ e)
  have hl := Nat.mod_lt u hp
  rw [h] at hm
  refine (Nat.log2_eq_iff (by omega)).mpr ⟨by omega, by rw [Nat.pow_succ]; omega⟩
theorem own_log2 {u e : Nat} (h : u / 2 ^ e = 2 ∨ u / 2 ^ e = 3) : Nat.log2 u = e + 1 := by
  have hp : 0 < 2 ^ e := Nat.two_pow_pos e
  have hm := Nat.div_add_mod u (2 ^ e)
  have hl := Nat.mod_lt u hp
  have e1 : 2 ^ (e + 1) = 2 ^ e * 2 := Nat.pow_succ ..
  have e2 : 2 ^ (e + 1 + 1) = 2 ^ e * 4 := by rw [Nat.pow_succ, e1]; omega
  refine (Nat.log2_eq_iff (by rcases h with h | h <;> rw [h] at hm <;> omega)).mpr ⟨by rw [e1]; rcases h with h | h <;> rw [h] at hm <;> omega, by rw [e2]; rcases h with h | h <;> rw [h] at hm <;> omega⟩
/-- the last step of Integer.numberOfLeadingZeros -/
theorem own_nlzEnd {u e : Nat} (he : e ≤ 30) (h1 : 1 ≤ u / 2 ^ e) (h2 : u / 2 ^ e < 4) : Int32.ofNat (31 - e) - (((Int32.ofNat (u / 2 ^ e)).toUInt32 >>> ((1 : Int32) &&& 31).toUInt32).toInt32) = Int32.ofNat (31 - Nat.log2 u) := by
  rw [own_ush (by omega) (1 : Int32) 1 (by decide) (by decide)]
  refine own_of _ _ (by omega) ?_
  have q := c_isub (Int32.ofNat (31 - e)) (Int32.ofNat (u / 2 ^ e / 2 ^ 1))
  rw [own_toInt (by omega), own_toInt (by omega)] at q
  have h3 : u / 2 ^ e = 1 ∨ (u / 2 ^ e = 2 ∨ u / 2 ^ e = 3) := by omega
  rcases h3 with h3 | h3
  · rw [own_log1 h3]; omega
  · rw [own_log2 h3]; rcases h3 with h3 | h3 <;> omega
theorem own_div2 (u e k : Nat) : u / 2 ^ e / 2 ^ k = u / 2 ^ (e + k) := by rw [Nat.div_div_eq_div_mul, Nat.pow_add]
theorem own_shl {u e k B : Nat} (h : u / 2 ^ e < 2 ^ k * B) : u / 2 ^ (e + k) < B := by
  rw [← own_div2]; exact Nat.div_lt_of_lt_mul h
theorem own_shg {u e k : Nat} (h : 2 ^ k ≤ u / 2 ^ e) : 1 ≤ u / 2 ^ (e + k) := by
  rw [← own_div2]; exact (Nat.one_le_div_iff (Nat.two_pow_pos k)).mpr h
theorem own_log31 {u : Nat} (h1 : 2147483648 ≤ u) (h2 : u < 4294967296) : Nat.log2 u = 31 := (Nat.log2_eq_iff (by omega)).mpr ⟨by omega, by omega⟩
/-- the place of a value -/
def own_bk (u : Nat) : Nat := if u < 4096 then u else 4096 + (Nat.log2 u - 12) * 2048 + u / 2 ^ (Nat.log2 u - 11) - 2048
theorem own_L {u : Nat} (h1 : 4096 ≤ u) (h2 : u < 4294967296) : 12 ≤ Nat.log2 u ∧ Nat.log2 u ≤ 31 :=
  ⟨(Nat.le_log2 (by omega)).mpr (by omega), by have := (Nat.log2_lt (show u ≠ 0 by omega) (k := 32)).mpr (by omega); omega⟩
theorem own_top {u : Nat} (h1 : 4096 ≤ u) (h2 : u < 4294967296) : 2048 ≤ u / 2 ^ (Nat.log2 u - 11) ∧ u / 2 ^ (Nat.log2 u - 11) < 4096 := by
  obtain ⟨l1, l2⟩ := own_L h1 h2
  have a := Nat.log2_self_le (show u ≠ 0 by omega)
  have b : u < 2 ^ (Nat.log2 u + 1) := Nat.lt_log2_self
  have e1 : 2 ^ Nat.log2 u = 2048 * 2 ^ (Nat.log2 u - 11) := by rw [show (2048 : Nat) = 2 ^ 11 from rfl, ← Nat.pow_add]; congr 1; omega
  have e2 : 2 ^ (Nat.log2 u + 1) = 2 ^ (Nat.log2 u - 11) * 4096 := by rw [show (4096 : Nat) = 2 ^ 12 from rfl, ← Nat.pow_add]; congr 1; omega
  exact ⟨(Nat.le_div_iff_mul_le (Nat.two_pow_pos _)).mpr (by omega), Nat.div_lt_of_lt_mul (by omega)⟩
theorem own_bk_lt {u : Nat} (h : u < 4294967296) : own_bk u < 45056 := by
  unfold own_bk
  split
  · omega
  · obtain ⟨l1, l2⟩ := own_L (by omega) h
    obtain ⟨t1, t2⟩ := own_top (by omega) h
    omega
theorem own_sh {L : Nat} (h1 : 12 ≤ L) (h2 : L ≤ 31) : (64 : Int32) - Int32.ofNat (63 - L) - (12 : Int32) = Int32.ofNat (L - 11) := by
  refine own_of _ _ (by omega) ?_
  have q1 := c_isub (64 : Int32) (Int32.ofNat (63 - L))
  have q2 := c_isub ((64 : Int32) - Int32.ofNat (63 - L)) (12 : Int32)
  rw [own_toInt (by omega)] at q1
  have e1 : (64 : Int32).toInt = 64 := rfl
  have e2 : (12 : Int32).toInt = 12 := rfl
  rw [e1] at q1; rw [e2] at q2
  omega
theorem own_lsh {u : Nat} (h : u < 4294967296) {s : Nat} (h1 : 1 ≤ s) (h2 : s ≤ 31) : ((((Int64.ofNat u).toUInt64 >>> ((Int32.ofNat s) &&& 0x3f).toInt64.toUInt64).toInt64).toInt32.toInt - (u / 2 ^ s : Nat)) % 4294967296 = 0 := by
  have hk : (Int32.ofNat s).toBitVec.toNat % 64 = s := by
    have : (Int32.ofNat s).toBitVec.toNat = s := by
      show (BitVec.ofNat 32 s).toNat = s
      rw [BitVec.toNat_ofNat]; omega
    rw [this]; omega
  have q := c_lushr (Int64.ofNat u) (Int32.ofNat s) s hk (by omega)
  rw [own_toIntL h] at q
  have e : ((u : Int) % 18446744073709551616) = u := by omega
  rw [e, ← Int.natCast_ediv] at q
  have q2 := c_l2i (((Int64.ofNat u).toUInt64 >>> ((Int32.ofNat s) &&& 0x3f).toInt64.toUInt64).toInt64)
  rw [q] at q2; exact q2
theorem own_bkEnd {u : Nat} (h1 : 4096 ≤ u) (h2 : u < 4294967296) : (4096 : Int32) + (Int32.ofNat (Nat.log2 u - 11) - (1 : Int32)) * (2048 : Int32) + (((Int64.ofNat u).toUInt64 >>> ((Int32.ofNat (Nat.log2 u - 11)) &&& 0x3f).toInt64.toUInt64).toInt64).toInt32 - (2048 : Int32) = Int32.ofNat (own_bk u) := by
  obtain ⟨l1, l2⟩ := own_L h1 h2
  obtain ⟨t1, t2⟩ := own_top h1 h2
  have hb := own_bk_lt h2
  refine own_of _ _ (by omega) ?_
  have q0 := own_lsh h2 (s := Nat.log2 u - 11) (by omega) (by omega)
  generalize (((Int64.ofNat u).toUInt64 >>> ((Int32.ofNat (Nat.log2 u - 11)) &&& 0x3f).toInt64.toUInt64).toInt64).toInt32 = y at q0 ⊢
  have e1 : (1 : Int32).toInt = 1 := rfl
  have e2 : (2048 : Int32).toInt = 2048 := rfl
  have e3 : (4096 : Int32).toInt = 4096 := rfl
  have q1 := c_isub (Int32.ofNat (Nat.log2 u - 11)) (1 : Int32)
  rw [own_toInt (by omega), e1] at q1
  have q2 := c_imul (Int32.ofNat (Nat.log2 u - 11) - (1 : Int32)) (2048 : Int32)
  have q3 := c_iadd (4096 : Int32) ((Int32.ofNat (Nat.log2 u - 11) - (1 : Int32)) * (2048 : Int32))
  have q4 := c_iadd ((4096 : Int32) + (Int32.ofNat (Nat.log2 u - 11) - (1 : Int32)) * (2048 : Int32)) y
  have q5 := c_isub ((4096 : Int32) + (Int32.ofNat (Nat.log2 u - 11) - (1 : Int32)) * (2048 : Int32) + y) (2048 : Int32)
  rw [e2] at q2 q5; rw [e3] at q3
  have r1 := own_rng (Int32.ofNat (Nat.log2 u - 11) - (1 : Int32))
  have ev : own_bk u = 4096 + (Nat.log2 u - 12) * 2048 + u / 2 ^ (Nat.log2 u - 11) - 2048 := by unfold own_bk; rw [if_neg (by omega)]
  rw [ev]
  generalize u / 2 ^ (Nat.log2 u - 11) = z at *
  generalize Nat.log2 u = L at *
  omega
theorem own_bkLow {u : Nat} (h : u < 4096) : (Int64.ofNat u).toInt32 = Int32.ofNat (own_bk u) := by
  rw [own_l2iEq, own_bk, if_pos h]
/-! an array of 45,056 longs by its places -/
def Cnt (Z : State) (h : Heap) (a : Addr) (f : Nat → Int64) : Prop := ∃ c : Cell, Arr Z h a c .long ∧ c.slots.size = 45056 ∧ ∀ j, j < 45056 → c.slots[j]? = some (.long (f j))
section Counts
variable {Z : State} {h h' : Heap} {a b : Addr} {f : Nat → Int64} {v : Value} {sl : Nat} {ws : List Addr}
theorem Cnt.lt (F : Cnt Z h a f) : a < h.size := by obtain ⟨c, A, -⟩ := F; exact A.lt
theorem Cnt.ext (F : Cnt Z h a f) (E : Ext h h') : Cnt Z h' a f := by obtain ⟨c, A, r⟩ := F; exact ⟨c, A.ext E, r⟩
theorem Cnt.other (F : Cnt Z h b f) (W : Wr h h' a sl v) (q : b ≠ a) : Cnt Z h' b f := by obtain ⟨c, A, r⟩ := F; exact ⟨c, A.other W q, r⟩
theorem Cnt.keep (F : Cnt Z h a f) (K : Keep h h' ws) (q : a ∉ ws) : Cnt Z h' a f := by obtain ⟨c, A, r⟩ := F; exact ⟨c, ⟨K.2.1 a c A.1 q, A.2⟩, r⟩
theorem Cnt.new {k : ClassId} (A : Arr Z h a (newA k .long (45056 : Int32)) .long) : Cnt Z h a (fun _ => 0) := by
  have e : (45056 : Int32).toNatClampNeg = 45056 := by decide
  refine ⟨_, A, by rw [sz_new, e], fun j hj => ?_⟩
  simp [newA, e, hj, defaultValue]
theorem own_csz {c : Cell} (S : c.slots.size = 45056) : c.slots.size.toInt32 = (45056 : Int32) := by rw [S]; decide
theorem own_cin {c : Cell} (S : c.slots.size = 45056) {i : Nat} (hi : i < 45056) : ¬ (Int32.ofNat i < 0 ∨ c.slots.size ≤ (Int32.ofNat i).toNatClampNeg) := by
  rw [S, own_clamp (by omega), Int32.lt_iff_toInt_lt, own_toInt (by omega)]
  have e0 : (0 : Int32).toInt = 0 := rfl
  omega
theorem own_cat {c : Cell} (H : ∀ j, j < 45056 → c.slots[j]? = some (.long (f j))) {i : Nat} (hi : i < 45056) : c.slots[(Int32.ofNat i).toNatClampNeg]? = some (.long (f i)) := by
  rw [own_clamp (by omega)]; exact H i hi
theorem Cnt.set {c : Cell} {i : Nat} {x : Int64} (A : Arr Z h a c .long) (S : c.slots.size = 45056) (H : ∀ j, j < 45056 → c.slots[j]? = some (.long (f j))) (W : Wr h h' a (Int32.ofNat i).toNatClampNeg (.long x)) (hi : i < 45056) : Cnt Z h' a (fun j => if j = i then x else f j) := by
  rw [own_clamp (by omega)] at W
  refine ⟨_, A.same W, by rw [sz_set]; exact S, fun j hj => ?_⟩
  show (c.slots.setIfInBounds i (.long x))[j]? = _
  by_cases q : j = i
  · subst q; rw [Array.getElem?_setIfInBounds_self_of_lt (by omega)]; simp
  · rw [Array.getElem?_setIfInBounds_ne (Ne.symm q), H j hj]; simp [q]
end Counts

theorem d5_0 : decode jdk_33_method_47_code 0 = .ok (.iload_n 0, 1) := by decide +kernel
theorem d5_1 : decode jdk_33_method_47_code 1 = .ok (.ifCond .gt 14, 3) := by decide +kernel
theorem d5_4 : decode jdk_33_method_47_code 4 = .ok (.iload_n 0, 1) := by decide +kernel
theorem d5_5 : decode jdk_33_method_47_code 5 = .ok (.ifCond .ne 8, 3) := by decide +kernel
theorem d5_8 : decode jdk_33_method_47_code 8 = .ok (.bipush 32, 2) := by decide +kernel
theorem d5_10 : decode jdk_33_method_47_code 10 = .ok (.goto 4, 3) := by decide +kernel
theorem d5_13 : decode jdk_33_method_47_code 13 = .ok (.iconst 0, 1) := by decide +kernel
theorem d5_14 : decode jdk_33_method_47_code 14 = .ok (.ireturn, 1) := by decide +kernel
theorem d5_15 : decode jdk_33_method_47_code 15 = .ok (.bipush 31, 2) := by decide +kernel
theorem d5_17 : decode jdk_33_method_47_code 17 = .ok (.istore_n 1, 1) := by decide +kernel
theorem d5_18 : decode jdk_33_method_47_code 18 = .ok (.iload_n 0, 1) := by decide +kernel
theorem d5_19 : decode jdk_33_method_47_code 19 = .ok (.ldc_w 264, 3) := by decide +kernel
theorem d5_22 : decode jdk_33_method_47_code 22 = .ok (.if_icmp .lt 11, 3) := by decide +kernel
theorem d5_25 : decode jdk_33_method_47_code 25 = .ok (.iinc 1 (-16), 3) := by decide +kernel
theorem d5_28 : decode jdk_33_method_47_code 28 = .ok (.iload_n 0, 1) := by decide +kernel
theorem d5_29 : decode jdk_33_method_47_code 29 = .ok (.bipush 16, 2) := by decide +kernel
theorem d5_31 : decode jdk_33_method_47_code 31 = .ok (.iushr, 1) := by decide +kernel
theorem d5_32 : decode jdk_33_method_47_code 32 = .ok (.istore_n 0, 1) := by decide +kernel
theorem d5_33 : decode jdk_33_method_47_code 33 = .ok (.iload_n 0, 1) := by decide +kernel
theorem d5_34 : decode jdk_33_method_47_code 34 = .ok (.sipush 256, 3) := by decide +kernel
theorem d5_37 : decode jdk_33_method_47_code 37 = .ok (.if_icmp .lt 11, 3) := by decide +kernel
theorem d5_40 : decode jdk_33_method_47_code 40 = .ok (.iinc 1 (-8), 3) := by decide +kernel
theorem d5_43 : decode jdk_33_method_47_code 43 = .ok (.iload_n 0, 1) := by decide +kernel
theorem d5_44 : decode jdk_33_method_47_code 44 = .ok (.bipush 8, 2) := by decide +kernel
theorem d5_46 : decode jdk_33_method_47_code 46 = .ok (.iushr, 1) := by decide +kernel
theorem d5_47 : decode jdk_33_method_47_code 47 = .ok (.istore_n 0, 1) := by decide +kernel
theorem d5_48 : decode jdk_33_method_47_code 48 = .ok (.iload_n 0, 1) := by decide +kernel
theorem d5_49 : decode jdk_33_method_47_code 49 = .ok (.bipush 16, 2) := by decide +kernel
theorem d5_51 : decode jdk_33_method_47_code 51 = .ok (.if_icmp .lt 10, 3) := by decide +kernel
theorem d5_54 : decode jdk_33_method_47_code 54 = .ok (.iinc 1 (-4), 3) := by decide +kernel
theorem d5_57 : decode jdk_33_method_47_code 57 = .ok (.iload_n 0, 1) := by decide +kernel
theorem d5_58 : decode jdk_33_method_47_code 58 = .ok (.iconst 4, 1) := by decide +kernel
theorem d5_59 : decode jdk_33_method_47_code 59 = .ok (.iushr, 1) := by decide +kernel
theorem d5_60 : decode jdk_33_method_47_code 60 = .ok (.istore_n 0, 1) := by decide +kernel
theorem d5_61 : decode jdk_33_method_47_code 61 = .ok (.iload_n 0, 1) := by decide +kernel
theorem d5_62 : decode jdk_33_method_47_code 62 = .ok (.iconst 4, 1) := by decide +kernel
theorem d5_63 : decode jdk_33_method_47_code 63 = .ok (.if_icmp .lt 10, 3) := by decide +kernel
theorem d5_66 : decode jdk_33_method_47_code 66 = .ok (.iinc 1 (-2), 3) := by decide +kernel
theorem d5_69 : decode jdk_33_method_47_code 69 = .ok (.iload_n 0, 1) := by decide +kernel
theorem d5_70 : decode jdk_33_method_47_code 70 = .ok (.iconst 2, 1) := by decide +kernel
theorem d5_71 : decode jdk_33_method_47_code 71 = .ok (.iushr, 1) := by decide +kernel
theorem d5_72 : decode jdk_33_method_47_code 72 = .ok (.istore_n 0, 1) := by decide +kernel
theorem d5_73 : decode jdk_33_method_47_code 73 = .ok (.iload_n 1, 1) := by decide +kernel
theorem d5_74 : decode jdk_33_method_47_code 74 = .ok (.iload_n 0, 1) := by decide +kernel
theorem d5_75 : decode jdk_33_method_47_code 75 = .ok (.iconst 1, 1) := by decide +kernel
theorem d5_76 : decode jdk_33_method_47_code 76 = .ok (.iushr, 1) := by decide +kernel
theorem d5_77 : decode jdk_33_method_47_code 77 = .ok (.isub, 1) := by decide +kernel
theorem d5_78 : decode jdk_33_method_47_code 78 = .ok (.ireturn, 1) := by decide +kernel
theorem pd__40__41_V : parseMethodDescriptor "()V" = some ⟨[], none⟩ := by decide +kernel
theorem pd__40_J_41_I : parseMethodDescriptor "(J)I" = some ⟨[.long], some .int⟩ := by decide +kernel
theorem pd__40_I_41_I : parseMethodDescriptor "(I)I" = some ⟨[.int], some .int⟩ := by decide +kernel
theorem pd__40_J_41_V : parseMethodDescriptor "(J)V" = some ⟨[.long], none⟩ := by decide +kernel
theorem pd__40_JJ_41_J : parseMethodDescriptor "(JJ)J" = some ⟨[.long, .long], some .long⟩ := by decide +kernel
theorem pd__40_Lcom_47_example_47_loomport_47_loomport_47_loadgen_47_Latencies_59__41_V : parseMethodDescriptor "(Lcom/example/loomport/loomport/loadgen/Latencies;)V" = some ⟨[(.object "com/example/loomport/loomport/loadgen/Latencies")], none⟩ := by decide +kernel
theorem pd__40_I_41_J : parseMethodDescriptor "(I)J" = some ⟨[.int], some .long⟩ := by decide +kernel
theorem ef_5 (m : MethodId) (x0 : Int32) : entryFrame m #[(.int x0)] 2 = mkF m 0 #[.val (.int x0), .unset] [] := by first | (simp [entryFrame, mkF, argsToLocals, Value.category]; done) | rfl
def Q5 (Z : State) (p1 : Int32) (u : Nat) (h0 : Heap) (n0 : Nat) (v : Option Value) (h : Heap) (L : List Loc) : Prop := v = some (.int (Int32.ofNat (31 - Nat.log2 u))) ∧ Fr n0 L ∧ h = h0
theorem pn_java_lang_Integer : plainName "java/lang/Integer" = true := by first | (simp [plainName, overriddenIn]; done) | decide +kernel
set_option maxRecDepth 65536 in
set_option maxHeartbeats 40000000 in
theorem rm5 (l : Launch) (Z : State) (a0 : Array Value) (hw : ∀ d ∈ tables_1, d.before a0 Z = true) (ws : List Jvm.Cond) (p1 : Int32) (u : Nat) (h0 : Heap) (n0 : Nat) (Z0 : n0 ≤ h0.size) (hu : p1 = Int32.ofNat u) (hu1 : 1 ≤ u) (hu2 : u < 4294967296) :
    MetFree l (⟨"java/lang/Integer", "numberOfLeadingZeros", "(I)I"⟩ : MethodName) (head1 (Jvm.Cond.code (⟨"java/lang/Integer", "numberOfLeadingZeros", "(I)I"⟩ : MethodName) jdk_33_method_47_code 2 (some .int) :: ws) ({ frames := 0, cells := 0, slots := 0, locals := 0 } : Room)) (fun a U => a = #[(.int p1)] ∧ Z.Warmed39 U.vm ∧ U.heap = h0) (fun _ _ _ _ _ => True) (fun _ U o U' => ∃ v L, o = .returned v ∧ Q5 Z p1 u h0 n0 v U'.heap L ∧ FrameEnd U o U' L ({ frames := 0, cells := 0, slots := 0, locals := 0 } : Room).cells ({ frames := 0, cells := 0, slots := 0, locals := 0 } : Room).slots) := by
  refine MetFree.of_bodySF (plainFor_of_name pn_java_lang_Integer) hisR ?_
  intro p e s m args below meth c s₁ Bd hml0 hP hK
  obtain ⟨rfl, hZ, hh⟩ := hP
  have hx := Bd.exec
  have hby := Bd.bytes
  have hlk : meth.locks = false := BodyLoose.notSynchronized Bd
  have hml : c.maxLocals = 2 := hml0
  have hown : s.vm.findClass "java/lang/Integer" = some m.cls := findClass_of_methodNamed Bd.named
  have hnm := (name_of_methodNamed Bd.named Bd.method).1
  have X0 : Stand p l e ({ frames := 0, cells := 0, slots := 0, locals := 0 } : Room) s m #[(.int p1)] below meth c s₁ [] 0 0 := Stand.of_body Bd
  have e0 : s₁.heap = h0 := by rw [← hh, Bd.state]; rfl
  have N0 := Fr.nil n0
  show Go p.tables e below s (Q5 Z p1 u h0 n0) ({ frames := 0, cells := 0, slots := 0, locals := 0 } : Room).cells ({ frames := 0, cells := 0, slots := 0, locals := 0 } : Room).slots (s₁.setTop (entryFrame m #[(.int p1)] 2))
  refine Go.on (fun t k => castTop (ef_5 m p1) k) ?_
  show Go p.tables e below s _ _ _ (s₁.setTop (mkF m 0 #[.val (.int p1), .unset] []))
  subst hu
  show Go p.tables e below s _ _ _ (s₁.setTop (mkF m 0 #[.val (.int (Int32.ofNat u)), .unset] []))
  have st73 : ∀ e2 : Nat, e2 ≤ 30 → 1 ≤ u / 2 ^ e2 → u / 2 ^ e2 < 4 → Go p.tables e below s (Q5 Z (Int32.ofNat u) u h0 n0) ({ frames := 0, cells := 0, slots := 0, locals := 0 } : Room).cells ({ frames := 0, cells := 0, slots := 0, locals := 0 } : Room).slots (s₁.setTop (mkF m 73 #[.val (.int (Int32.ofNat (u / 2 ^ e2))), .val (.int (Int32.ofNat (31 - e2)))] [])) := by
    intro e2 he h1 h2
    refine Go.on (fun t k => XS.iloadN X0.here hx rfl (hb hby d5_73) rfl k) ?_
    show Go p.tables e below s _ _ _ (s₁.setTop (mkF m 74 #[.val (.int (Int32.ofNat (u / 2 ^ e2))), .val (.int (Int32.ofNat (31 - e2)))] [(.int (Int32.ofNat (31 - e2)))]))
    refine Go.on (fun t k => XS.iloadN X0.here hx rfl (hb hby d5_74) rfl k) ?_
    show Go p.tables e below s _ _ _ (s₁.setTop (mkF m 75 #[.val (.int (Int32.ofNat (u / 2 ^ e2))), .val (.int (Int32.ofNat (31 - e2)))] [(.int (Int32.ofNat (u / 2 ^ e2))), (.int (Int32.ofNat (31 - e2)))]))
    refine Go.on (fun t k => XS.iconst X0.here hx rfl (hb hby d5_75) k) ?_
    show Go p.tables e below s _ _ _ (s₁.setTop (mkF m 76 #[.val (.int (Int32.ofNat (u / 2 ^ e2))), .val (.int (Int32.ofNat (31 - e2)))] [(.int (1 : Int32)), (.int (Int32.ofNat (u / 2 ^ e2))), (.int (Int32.ofNat (31 - e2)))]))
    refine Go.on (fun t k => XS.iushr X0.here hx rfl (hb hby d5_76) rfl k) ?_
    show Go p.tables e below s _ _ _ (s₁.setTop (mkF m 77 #[.val (.int (Int32.ofNat (u / 2 ^ e2))), .val (.int (Int32.ofNat (31 - e2)))] [(.int (((Int32.ofNat (u / 2 ^ e2)).toUInt32 >>> ((1 : Int32) &&& 31).toUInt32).toInt32)), (.int (Int32.ofNat (31 - e2)))]))
    refine Go.on (fun t k => XS.isub X0.here hx rfl (hb hby d5_77) rfl k) ?_
    show Go p.tables e below s _ _ _ (s₁.setTop (mkF m 78 #[.val (.int (Int32.ofNat (u / 2 ^ e2))), .val (.int (Int32.ofNat (31 - e2)))] [(.int ((Int32.ofNat (31 - e2)) - (((Int32.ofNat (u / 2 ^ e2)).toUInt32 >>> ((1 : Int32) &&& 31).toUInt32).toInt32)))]))
    rw [own_nlzEnd he h1 h2]
    show Go p.tables e below s _ _ _ (s₁.setTop (mkF m 78 #[.val (.int (Int32.ofNat (u / 2 ^ e2))), .val (.int (Int32.ofNat (31 - e2)))] [(.int (Int32.ofNat (31 - Nat.log2 u)))]))
    refine Go.retI X0 hx hlk Bd.returns (hb hby d5_78) (by decide) (by decide) e0 ?_
    exact ⟨rfl, N0, rfl⟩
  have st61 : ∀ e2 : Nat, e2 ≤ 28 → 1 ≤ u / 2 ^ e2 → u / 2 ^ e2 < 16 → Go p.tables e below s (Q5 Z (Int32.ofNat u) u h0 n0) ({ frames := 0, cells := 0, slots := 0, locals := 0 } : Room).cells ({ frames := 0, cells := 0, slots := 0, locals := 0 } : Room).slots (s₁.setTop (mkF m 61 #[.val (.int (Int32.ofNat (u / 2 ^ e2))), .val (.int (Int32.ofNat (31 - e2)))] [])) := by
    intro e2 he h1 h2
    refine Go.on (fun t k => XS.iloadN X0.here hx rfl (hb hby d5_61) rfl k) ?_
    show Go p.tables e below s _ _ _ (s₁.setTop (mkF m 62 #[.val (.int (Int32.ofNat (u / 2 ^ e2))), .val (.int (Int32.ofNat (31 - e2)))] [(.int (Int32.ofNat (u / 2 ^ e2)))]))
    refine Go.on (fun t k => XS.iconst X0.here hx rfl (hb hby d5_62) k) ?_
    show Go p.tables e below s _ _ _ (s₁.setTop (mkF m 63 #[.val (.int (Int32.ofNat (u / 2 ^ e2))), .val (.int (Int32.ofNat (31 - e2)))] [(.int (4 : Int32)), (.int (Int32.ofNat (u / 2 ^ e2)))]))
    by_cases hc : Int32.ofNat (u / 2 ^ e2) < (4 : Int32)
    · refine Go.on (fun t k => XS.icmpYes X0.here hx rfl (pc0 := 63) (pc' := 73) rfl (hb hby d5_63) rfl (tlt hc).1 (by decide) (by decide) k) ?_
      show Go p.tables e below s _ _ _ (s₁.setTop (mkF m 73 #[.val (.int (Int32.ofNat (u / 2 ^ e2))), .val (.int (Int32.ofNat (31 - e2)))] []))
      exact st73 e2 (by omega) h1 ((own_lt (by omega) (by omega)).mp hc)
    · have hc2 : 2 ^ 2 ≤ u / 2 ^ e2 := by have q : ¬ u / 2 ^ e2 < 4 := fun q => hc ((own_lt (i := u / 2 ^ e2) (n := 4) (by omega) (by omega)).mpr q); omega
      refine Go.on (fun t k => XS.icmpNo X0.here hx rfl (hb hby d5_63) rfl (flt hc).1 k) ?_
      show Go p.tables e below s _ _ _ (s₁.setTop (mkF m 66 #[.val (.int (Int32.ofNat (u / 2 ^ e2))), .val (.int (Int32.ofNat (31 - e2)))] []))
      refine Go.on (fun t k => XS.iinc X0.here hx rfl (hb hby d5_66) rfl (l' := #[.val (.int (Int32.ofNat (u / 2 ^ e2))), .val (.int ((Int32.ofNat (31 - e2)) + (-2 : Int32)))]) rfl k) ?_
      show Go p.tables e below s _ _ _ (s₁.setTop (mkF m 69 #[.val (.int (Int32.ofNat (u / 2 ^ e2))), .val (.int ((Int32.ofNat (31 - e2)) + (-2 : Int32)))] []))
      rw [own_dec (e := e2) (b := 2) (by omega) (-2 : Int32) (by decide)]
      show Go p.tables e below s _ _ _ (s₁.setTop (mkF m 69 #[.val (.int (Int32.ofNat (u / 2 ^ e2))), .val (.int (Int32.ofNat (31 - (e2 + 2))))] []))
      refine Go.on (fun t k => XS.iloadN X0.here hx rfl (hb hby d5_69) rfl k) ?_
      show Go p.tables e below s _ _ _ (s₁.setTop (mkF m 70 #[.val (.int (Int32.ofNat (u / 2 ^ e2))), .val (.int (Int32.ofNat (31 - (e2 + 2))))] [(.int (Int32.ofNat (u / 2 ^ e2)))]))
      refine Go.on (fun t k => XS.iconst X0.here hx rfl (hb hby d5_70) k) ?_
      show Go p.tables e below s _ _ _ (s₁.setTop (mkF m 71 #[.val (.int (Int32.ofNat (u / 2 ^ e2))), .val (.int (Int32.ofNat (31 - (e2 + 2))))] [(.int (2 : Int32)), (.int (Int32.ofNat (u / 2 ^ e2)))]))
      refine Go.on (fun t k => XS.iushr X0.here hx rfl (hb hby d5_71) rfl k) ?_
      show Go p.tables e below s _ _ _ (s₁.setTop (mkF m 72 #[.val (.int (Int32.ofNat (u / 2 ^ e2))), .val (.int (Int32.ofNat (31 - (e2 + 2))))] [(.int (((Int32.ofNat (u / 2 ^ e2)).toUInt32 >>> ((2 : Int32) &&& 31).toUInt32).toInt32))]))
      rw [own_ush (x := u / 2 ^ e2) (by omega) (2 : Int32) 2 (by decide) (by decide), own_div2]
      show Go p.tables e below s _ _ _ (s₁.setTop (mkF m 72 #[.val (.int (Int32.ofNat (u / 2 ^ e2))), .val (.int (Int32.ofNat (31 - (e2 + 2))))] [(.int (Int32.ofNat (u / 2 ^ (e2 + 2))))]))
      refine Go.on (fun t k => XS.istoreN X0.here hx rfl (hb hby d5_72) rfl (l' := #[.val (.int (Int32.ofNat (u / 2 ^ (e2 + 2)))), .val (.int (Int32.ofNat (31 - (e2 + 2))))]) rfl k) ?_
      show Go p.tables e below s _ _ _ (s₁.setTop (mkF m 73 #[.val (.int (Int32.ofNat (u / 2 ^ (e2 + 2)))), .val (.int (Int32.ofNat (31 - (e2 + 2))))] []))
      exact st73 (e2 + 2) (by omega) (own_shg hc2) (own_shl (by omega))
  have st48 : ∀ e2 : Nat, e2 ≤ 24 → 1 ≤ u / 2 ^ e2 → u / 2 ^ e2 < 256 → Go p.tables e below s (Q5 Z (Int32.ofNat u) u h0 n0) ({ frames := 0, cells := 0, slots := 0, locals := 0 } : Room).cells ({ frames := 0, cells := 0, slots := 0, locals := 0 } : Room).slots (s₁.setTop (mkF m 48 #[.val (.int (Int32.ofNat (u / 2 ^ e2))), .val (.int (Int32.ofNat (31 - e2)))] [])) := by
    intro e2 he h1 h2
    refine Go.on (fun t k => XS.iloadN X0.here hx rfl (hb hby d5_48) rfl k) ?_
    show Go p.tables e below s _ _ _ (s₁.setTop (mkF m 49 #[.val (.int (Int32.ofNat (u / 2 ^ e2))), .val (.int (Int32.ofNat (31 - e2)))] [(.int (Int32.ofNat (u / 2 ^ e2)))]))
    refine Go.on (fun t k => XS.bipush X0.here hx rfl (hb hby d5_49) k) ?_
    show Go p.tables e below s _ _ _ (s₁.setTop (mkF m 51 #[.val (.int (Int32.ofNat (u / 2 ^ e2))), .val (.int (Int32.ofNat (31 - e2)))] [(.int (16 : Int32)), (.int (Int32.ofNat (u / 2 ^ e2)))]))
    by_cases hc : Int32.ofNat (u / 2 ^ e2) < (16 : Int32)
    · refine Go.on (fun t k => XS.icmpYes X0.here hx rfl (pc0 := 51) (pc' := 61) rfl (hb hby d5_51) rfl (tlt hc).1 (by decide) (by decide) k) ?_
      show Go p.tables e below s _ _ _ (s₁.setTop (mkF m 61 #[.val (.int (Int32.ofNat (u / 2 ^ e2))), .val (.int (Int32.ofNat (31 - e2)))] []))
      exact st61 e2 (by omega) h1 ((own_lt (by omega) (by omega)).mp hc)
    · have hc2 : 2 ^ 4 ≤ u / 2 ^ e2 := by have q : ¬ u / 2 ^ e2 < 16 := fun q => hc ((own_lt (i := u / 2 ^ e2) (n := 16) (by omega) (by omega)).mpr q); omega
      refine Go.on (fun t k => XS.icmpNo X0.here hx rfl (hb hby d5_51) rfl (flt hc).1 k) ?_
      show Go p.tables e below s _ _ _ (s₁.setTop (mkF m 54 #[.val (.int (Int32.ofNat (u / 2 ^ e2))), .val (.int (Int32.ofNat (31 - e2)))] []))
      refine Go.on (fun t k => XS.iinc X0.here hx rfl (hb hby d5_54) rfl (l' := #[.val (.int (Int32.ofNat (u / 2 ^ e2))), .val (.int ((Int32.ofNat (31 - e2)) + (-4 : Int32)))]) rfl k) ?_
      show Go p.tables e below s _ _ _ (s₁.setTop (mkF m 57 #[.val (.int (Int32.ofNat (u / 2 ^ e2))), .val (.int ((Int32.ofNat (31 - e2)) + (-4 : Int32)))] []))
      rw [own_dec (e := e2) (b := 4) (by omega) (-4 : Int32) (by decide)]
      show Go p.tables e below s _ _ _ (s₁.setTop (mkF m 57 #[.val (.int (Int32.ofNat (u / 2 ^ e2))), .val (.int (Int32.ofNat (31 - (e2 + 4))))] []))
      refine Go.on (fun t k => XS.iloadN X0.here hx rfl (hb hby d5_57) rfl k) ?_
      show Go p.tables e below s _ _ _ (s₁.setTop (mkF m 58 #[.val (.int (Int32.ofNat (u / 2 ^ e2))), .val (.int (Int32.ofNat (31 - (e2 + 4))))] [(.int (Int32.ofNat (u / 2 ^ e2)))]))
      refine Go.on (fun t k => XS.iconst X0.here hx rfl (hb hby d5_58) k) ?_
      show Go p.tables e below s _ _ _ (s₁.setTop (mkF m 59 #[.val (.int (Int32.ofNat (u / 2 ^ e2))), .val (.int (Int32.ofNat (31 - (e2 + 4))))] [(.int (4 : Int32)), (.int (Int32.ofNat (u / 2 ^ e2)))]))
      refine Go.on (fun t k => XS.iushr X0.here hx rfl (hb hby d5_59) rfl k) ?_
      show Go p.tables e below s _ _ _ (s₁.setTop (mkF m 60 #[.val (.int (Int32.ofNat (u / 2 ^ e2))), .val (.int (Int32.ofNat (31 - (e2 + 4))))] [(.int (((Int32.ofNat (u / 2 ^ e2)).toUInt32 >>> ((4 : Int32) &&& 31).toUInt32).toInt32))]))
      rw [own_ush (x := u / 2 ^ e2) (by omega) (4 : Int32) 4 (by decide) (by decide), own_div2]
      show Go p.tables e below s _ _ _ (s₁.setTop (mkF m 60 #[.val (.int (Int32.ofNat (u / 2 ^ e2))), .val (.int (Int32.ofNat (31 - (e2 + 4))))] [(.int (Int32.ofNat (u / 2 ^ (e2 + 4))))]))
      refine Go.on (fun t k => XS.istoreN X0.here hx rfl (hb hby d5_60) rfl (l' := #[.val (.int (Int32.ofNat (u / 2 ^ (e2 + 4)))), .val (.int (Int32.ofNat (31 - (e2 + 4))))]) rfl k) ?_
      show Go p.tables e below s _ _ _ (s₁.setTop (mkF m 61 #[.val (.int (Int32.ofNat (u / 2 ^ (e2 + 4)))), .val (.int (Int32.ofNat (31 - (e2 + 4))))] []))
      exact st61 (e2 + 4) (by omega) (own_shg hc2) (own_shl (by omega))
  have st33 : ∀ e2 : Nat, e2 ≤ 16 → 1 ≤ u / 2 ^ e2 → u / 2 ^ e2 < 65536 → Go p.tables e below s (Q5 Z (Int32.ofNat u) u h0 n0) ({ frames := 0, cells := 0, slots := 0, locals := 0 } : Room).cells ({ frames := 0, cells := 0, slots := 0, locals := 0 } : Room).slots (s₁.setTop (mkF m 33 #[.val (.int (Int32.ofNat (u / 2 ^ e2))), .val (.int (Int32.ofNat (31 - e2)))] [])) := by
    intro e2 he h1 h2
    refine Go.on (fun t k => XS.iloadN X0.here hx rfl (hb hby d5_33) rfl k) ?_
    show Go p.tables e below s _ _ _ (s₁.setTop (mkF m 34 #[.val (.int (Int32.ofNat (u / 2 ^ e2))), .val (.int (Int32.ofNat (31 - e2)))] [(.int (Int32.ofNat (u / 2 ^ e2)))]))
    refine Go.on (fun t k => XS.sipush X0.here hx rfl (hb hby d5_34) k) ?_
    show Go p.tables e below s _ _ _ (s₁.setTop (mkF m 37 #[.val (.int (Int32.ofNat (u / 2 ^ e2))), .val (.int (Int32.ofNat (31 - e2)))] [(.int (256 : Int32)), (.int (Int32.ofNat (u / 2 ^ e2)))]))
    by_cases hc : Int32.ofNat (u / 2 ^ e2) < (256 : Int32)
    · refine Go.on (fun t k => XS.icmpYes X0.here hx rfl (pc0 := 37) (pc' := 48) rfl (hb hby d5_37) rfl (tlt hc).1 (by decide) (by decide) k) ?_
      show Go p.tables e below s _ _ _ (s₁.setTop (mkF m 48 #[.val (.int (Int32.ofNat (u / 2 ^ e2))), .val (.int (Int32.ofNat (31 - e2)))] []))
      exact st48 e2 (by omega) h1 ((own_lt (by omega) (by omega)).mp hc)
    · have hc2 : 2 ^ 8 ≤ u / 2 ^ e2 := by have q : ¬ u / 2 ^ e2 < 256 := fun q => hc ((own_lt (i := u / 2 ^ e2) (n := 256) (by omega) (by omega)).mpr q); omega
      refine Go.on (fun t k => XS.icmpNo X0.here hx rfl (hb hby d5_37) rfl (flt hc).1 k) ?_
      show Go p.tables e below s _ _ _ (s₁.setTop (mkF m 40 #[.val (.int (Int32.ofNat (u / 2 ^ e2))), .val (.int (Int32.ofNat (31 - e2)))] []))
      refine Go.on (fun t k => XS.iinc X0.here hx rfl (hb hby d5_40) rfl (l' := #[.val (.int (Int32.ofNat (u / 2 ^ e2))), .val (.int ((Int32.ofNat (31 - e2)) + (-8 : Int32)))]) rfl k) ?_
      show Go p.tables e below s _ _ _ (s₁.setTop (mkF m 43 #[.val (.int (Int32.ofNat (u / 2 ^ e2))), .val (.int ((Int32.ofNat (31 - e2)) + (-8 : Int32)))] []))
      rw [own_dec (e := e2) (b := 8) (by omega) (-8 : Int32) (by decide)]
      show Go p.tables e below s _ _ _ (s₁.setTop (mkF m 43 #[.val (.int (Int32.ofNat (u / 2 ^ e2))), .val (.int (Int32.ofNat (31 - (e2 + 8))))] []))
      refine Go.on (fun t k => XS.iloadN X0.here hx rfl (hb hby d5_43) rfl k) ?_
      show Go p.tables e below s _ _ _ (s₁.setTop (mkF m 44 #[.val (.int (Int32.ofNat (u / 2 ^ e2))), .val (.int (Int32.ofNat (31 - (e2 + 8))))] [(.int (Int32.ofNat (u / 2 ^ e2)))]))
      refine Go.on (fun t k => XS.bipush X0.here hx rfl (hb hby d5_44) k) ?_
      show Go p.tables e below s _ _ _ (s₁.setTop (mkF m 46 #[.val (.int (Int32.ofNat (u / 2 ^ e2))), .val (.int (Int32.ofNat (31 - (e2 + 8))))] [(.int (8 : Int32)), (.int (Int32.ofNat (u / 2 ^ e2)))]))
      refine Go.on (fun t k => XS.iushr X0.here hx rfl (hb hby d5_46) rfl k) ?_
      show Go p.tables e below s _ _ _ (s₁.setTop (mkF m 47 #[.val (.int (Int32.ofNat (u / 2 ^ e2))), .val (.int (Int32.ofNat (31 - (e2 + 8))))] [(.int (((Int32.ofNat (u / 2 ^ e2)).toUInt32 >>> ((8 : Int32) &&& 31).toUInt32).toInt32))]))
      rw [own_ush (x := u / 2 ^ e2) (by omega) (8 : Int32) 8 (by decide) (by decide), own_div2]
      show Go p.tables e below s _ _ _ (s₁.setTop (mkF m 47 #[.val (.int (Int32.ofNat (u / 2 ^ e2))), .val (.int (Int32.ofNat (31 - (e2 + 8))))] [(.int (Int32.ofNat (u / 2 ^ (e2 + 8))))]))
      refine Go.on (fun t k => XS.istoreN X0.here hx rfl (hb hby d5_47) rfl (l' := #[.val (.int (Int32.ofNat (u / 2 ^ (e2 + 8)))), .val (.int (Int32.ofNat (31 - (e2 + 8))))]) rfl k) ?_
      show Go p.tables e below s _ _ _ (s₁.setTop (mkF m 48 #[.val (.int (Int32.ofNat (u / 2 ^ (e2 + 8)))), .val (.int (Int32.ofNat (31 - (e2 + 8))))] []))
      exact st48 (e2 + 8) (by omega) (own_shg hc2) (own_shl (by omega))
  have st18 : ∀ e2 : Nat, e2 ≤ 0 → 1 ≤ u / 2 ^ e2 → u / 2 ^ e2 < 2147483648 → Go p.tables e below s (Q5 Z (Int32.ofNat u) u h0 n0) ({ frames := 0, cells := 0, slots := 0, locals := 0 } : Room).cells ({ frames := 0, cells := 0, slots := 0, locals := 0 } : Room).slots (s₁.setTop (mkF m 18 #[.val (.int (Int32.ofNat (u / 2 ^ e2))), .val (.int (Int32.ofNat (31 - e2)))] [])) := by
    intro e2 he h1 h2
    refine Go.on (fun t k => XS.iloadN X0.here hx rfl (hb hby d5_18) rfl k) ?_
    show Go p.tables e below s _ _ _ (s₁.setTop (mkF m 19 #[.val (.int (Int32.ofNat (u / 2 ^ e2))), .val (.int (Int32.ofNat (31 - e2)))] [(.int (Int32.ofNat (u / 2 ^ e2)))]))
    refine Go.on (fun t k => X0.ldcWInt hx hown (mvT hZ (hw _ (List.mem_of_getElem? (i := 55) rfl))) (g := (mkF m 19 #[.val (.int (Int32.ofNat (u / 2 ^ e2))), .val (.int (Int32.ofNat (31 - e2)))] [(.int (Int32.ofNat (u / 2 ^ e2)))])) rfl (hb hby d5_19) t k) ?_
    show Go p.tables e below s _ _ _ (s₁.setTop (mkF m 22 #[.val (.int (Int32.ofNat (u / 2 ^ e2))), .val (.int (Int32.ofNat (31 - e2)))] [(.int (65536 : Int32)), (.int (Int32.ofNat (u / 2 ^ e2)))]))
    by_cases hc : Int32.ofNat (u / 2 ^ e2) < (65536 : Int32)
    · refine Go.on (fun t k => XS.icmpYes X0.here hx rfl (pc0 := 22) (pc' := 33) rfl (hb hby d5_22) rfl (tlt hc).1 (by decide) (by decide) k) ?_
      show Go p.tables e below s _ _ _ (s₁.setTop (mkF m 33 #[.val (.int (Int32.ofNat (u / 2 ^ e2))), .val (.int (Int32.ofNat (31 - e2)))] []))
      exact st33 e2 (by omega) h1 ((own_lt (by omega) (by omega)).mp hc)
    · have hc2 : 2 ^ 16 ≤ u / 2 ^ e2 := by have q : ¬ u / 2 ^ e2 < 65536 := fun q => hc ((own_lt (i := u / 2 ^ e2) (n := 65536) (by omega) (by omega)).mpr q); omega
      refine Go.on (fun t k => XS.icmpNo X0.here hx rfl (hb hby d5_22) rfl (flt hc).1 k) ?_
      show Go p.tables e below s _ _ _ (s₁.setTop (mkF m 25 #[.val (.int (Int32.ofNat (u / 2 ^ e2))), .val (.int (Int32.ofNat (31 - e2)))] []))
      refine Go.on (fun t k => XS.iinc X0.here hx rfl (hb hby d5_25) rfl (l' := #[.val (.int (Int32.ofNat (u / 2 ^ e2))), .val (.int ((Int32.ofNat (31 - e2)) + (-16 : Int32)))]) rfl k) ?_
      show Go p.tables e below s _ _ _ (s₁.setTop (mkF m 28 #[.val (.int (Int32.ofNat (u / 2 ^ e2))), .val (.int ((Int32.ofNat (31 - e2)) + (-16 : Int32)))] []))
      rw [own_dec (e := e2) (b := 16) (by omega) (-16 : Int32) (by decide)]
      show Go p.tables e below s _ _ _ (s₁.setTop (mkF m 28 #[.val (.int (Int32.ofNat (u / 2 ^ e2))), .val (.int (Int32.ofNat (31 - (e2 + 16))))] []))
      refine Go.on (fun t k => XS.iloadN X0.here hx rfl (hb hby d5_28) rfl k) ?_
      show Go p.tables e below s _ _ _ (s₁.setTop (mkF m 29 #[.val (.int (Int32.ofNat (u / 2 ^ e2))), .val (.int (Int32.ofNat (31 - (e2 + 16))))] [(.int (Int32.ofNat (u / 2 ^ e2)))]))
      refine Go.on (fun t k => XS.bipush X0.here hx rfl (hb hby d5_29) k) ?_
      show Go p.tables e below s _ _ _ (s₁.setTop (mkF m 31 #[.val (.int (Int32.ofNat (u / 2 ^ e2))), .val (.int (Int32.ofNat (31 - (e2 + 16))))] [(.int (16 : Int32)), (.int (Int32.ofNat (u / 2 ^ e2)))]))
      refine Go.on (fun t k => XS.iushr X0.here hx rfl (hb hby d5_31) rfl k) ?_
      show Go p.tables e below s _ _ _ (s₁.setTop (mkF m 32 #[.val (.int (Int32.ofNat (u / 2 ^ e2))), .val (.int (Int32.ofNat (31 - (e2 + 16))))] [(.int (((Int32.ofNat (u / 2 ^ e2)).toUInt32 >>> ((16 : Int32) &&& 31).toUInt32).toInt32))]))
      rw [own_ush (x := u / 2 ^ e2) (by omega) (16 : Int32) 16 (by decide) (by decide), own_div2]
      show Go p.tables e below s _ _ _ (s₁.setTop (mkF m 32 #[.val (.int (Int32.ofNat (u / 2 ^ e2))), .val (.int (Int32.ofNat (31 - (e2 + 16))))] [(.int (Int32.ofNat (u / 2 ^ (e2 + 16))))]))
      refine Go.on (fun t k => XS.istoreN X0.here hx rfl (hb hby d5_32) rfl (l' := #[.val (.int (Int32.ofNat (u / 2 ^ (e2 + 16)))), .val (.int (Int32.ofNat (31 - (e2 + 16))))]) rfl k) ?_
      show Go p.tables e below s _ _ _ (s₁.setTop (mkF m 33 #[.val (.int (Int32.ofNat (u / 2 ^ (e2 + 16)))), .val (.int (Int32.ofNat (31 - (e2 + 16))))] []))
      exact st33 (e2 + 16) (by omega) (own_shg hc2) (own_shl (by omega))
  refine Go.on (fun t k => XS.iloadN X0.here hx rfl (hb hby d5_0) rfl k) ?_
  show Go p.tables e below s _ _ _ (s₁.setTop (mkF m 1 #[.val (.int (Int32.ofNat u)), .unset] [(.int (Int32.ofNat u))]))
  by_cases h31 : u < 2147483648
  · have hc : (0 : Int32) < Int32.ofNat u := (own_lt (i := 0) (by omega) h31).mpr (by omega)
    refine Go.on (fun t k => XS.ifYes X0.here hx rfl (pc0 := 1) (pc' := 15) rfl (hb hby d5_1) rfl ((if0 _ _).trans (tlt hc).2.2.1) (by decide) (by decide) k) ?_
    show Go p.tables e below s _ _ _ (s₁.setTop (mkF m 15 #[.val (.int (Int32.ofNat u)), .unset] []))
    refine Go.on (fun t k => XS.bipush X0.here hx rfl (hb hby d5_15) k) ?_
    show Go p.tables e below s _ _ _ (s₁.setTop (mkF m 17 #[.val (.int (Int32.ofNat u)), .unset] [(.int (31 : Int32))]))
    refine Go.on (fun t k => XS.istoreN X0.here hx rfl (hb hby d5_17) rfl (l' := #[.val (.int (Int32.ofNat u)), .val (.int (31 : Int32))]) rfl k) ?_
    show Go p.tables e below s _ _ _ (s₁.setTop (mkF m 18 #[.val (.int (Int32.ofNat u)), .val (.int (31 : Int32))] []))
    have q := st18 0 (by omega) (by simpa using hu1) (by simpa using h31)
    rw [Nat.pow_zero, Nat.div_one] at q
    exact q
  · have hneg : (Int32.ofNat u).toInt < 0 := by have q := own_wrap u; have := own_rng (Int32.ofNat u); omega
    have hc : ¬ (0 : Int32) < Int32.ofNat u := by rw [Int32.lt_iff_toInt_lt]; show ¬ (0 : Int) < _; omega
    refine Go.on (fun t k => XS.ifNo X0.here hx rfl (hb hby d5_1) rfl ((if0 _ _).trans (flt hc).2.2.1) k) ?_
    show Go p.tables e below s _ _ _ (s₁.setTop (mkF m 4 #[.val (.int (Int32.ofNat u)), .unset] []))
    refine Go.on (fun t k => XS.iloadN X0.here hx rfl (hb hby d5_4) rfl k) ?_
    show Go p.tables e below s _ _ _ (s₁.setTop (mkF m 5 #[.val (.int (Int32.ofNat u)), .unset] [(.int (Int32.ofNat u))]))
    have hc2 : ¬ Int32.ofNat u = (0 : Int32) := fun q => by rw [q] at hneg; exact absurd hneg (by decide)
    refine Go.on (fun t k => XS.ifYes X0.here hx rfl (pc0 := 5) (pc' := 13) rfl (hb hby d5_5) rfl ((if0 _ _).trans (feq hc2).2) (by decide) (by decide) k) ?_
    show Go p.tables e below s _ _ _ (s₁.setTop (mkF m 13 #[.val (.int (Int32.ofNat u)), .unset] []))
    refine Go.on (fun t k => XS.iconst X0.here hx rfl (hb hby d5_13) k) ?_
    show Go p.tables e below s _ _ _ (s₁.setTop (mkF m 14 #[.val (.int (Int32.ofNat u)), .unset] [(.int (0 : Int32))]))
    refine Go.retI X0 hx hlk Bd.returns (hb hby d5_14) (by decide) (by decide) e0 ?_
    exact ⟨(by rw [own_log31 (by omega) hu2]; rfl), N0, rfl⟩
theorem d4_0 : decode jdk_35_method_48_code 0 = .ok (.lload_n 0, 1) := by decide +kernel
theorem d4_1 : decode jdk_35_method_48_code 1 = .ok (.bipush 32, 2) := by decide +kernel
theorem d4_3 : decode jdk_35_method_48_code 3 = .ok (.lushr, 1) := by decide +kernel
theorem d4_4 : decode jdk_35_method_48_code 4 = .ok (.l2i, 1) := by decide +kernel
theorem d4_5 : decode jdk_35_method_48_code 5 = .ok (.istore_n 2, 1) := by decide +kernel
theorem d4_6 : decode jdk_35_method_48_code 6 = .ok (.iload_n 2, 1) := by decide +kernel
theorem d4_7 : decode jdk_35_method_48_code 7 = .ok (.ifCond .ne 14, 3) := by decide +kernel
theorem d4_10 : decode jdk_35_method_48_code 10 = .ok (.bipush 32, 2) := by decide +kernel
theorem d4_12 : decode jdk_35_method_48_code 12 = .ok (.lload_n 0, 1) := by decide +kernel
theorem d4_13 : decode jdk_35_method_48_code 13 = .ok (.l2i, 1) := by decide +kernel
theorem d4_14 : decode jdk_35_method_48_code 14 = .ok (.invokestatic 308, 3) := by decide +kernel
theorem d4_17 : decode jdk_35_method_48_code 17 = .ok (.iadd, 1) := by decide +kernel
theorem d4_18 : decode jdk_35_method_48_code 18 = .ok (.goto 7, 3) := by decide +kernel
theorem d4_21 : decode jdk_35_method_48_code 21 = .ok (.iload_n 2, 1) := by decide +kernel
theorem d4_22 : decode jdk_35_method_48_code 22 = .ok (.invokestatic 308, 3) := by decide +kernel
theorem d4_25 : decode jdk_35_method_48_code 25 = .ok (.ireturn, 1) := by decide +kernel
theorem ef_4 (m : MethodId) (x0 : Int64) : entryFrame m #[(.long x0)] 3 = mkF m 0 #[.val (.long x0), .second, .unset] [] := by first | (simp [entryFrame, mkF, argsToLocals, Value.category]; done) | rfl
def Q4 (Z : State) (q1 : Int64) (u : Nat) (h0 : Heap) (n0 : Nat) (v : Option Value) (h : Heap) (L : List Loc) : Prop := v = some (.int (Int32.ofNat (63 - Nat.log2 u))) ∧ Fr n0 L ∧ h = h0
theorem pn_java_lang_Long : plainName "java/lang/Long" = true := by first | (simp [plainName, overriddenIn]; done) | decide +kernel
set_option maxRecDepth 65536 in
set_option maxHeartbeats 40000000 in
theorem rm4 (l : Launch) (Z : State) (a0 : Array Value) (hw : ∀ d ∈ tables_1, d.before a0 Z = true) (ws : List Jvm.Cond) (q1 : Int64) (u : Nat) (h0 : Heap) (n0 : Nat) (Z0 : n0 ≤ h0.size) (hu : q1 = Int64.ofNat u) (hu1 : 1 ≤ u) (hu2 : u < 4294967296) :
    MetFree l (⟨"java/lang/Long", "numberOfLeadingZeros", "(J)I"⟩ : MethodName) (head1 (Jvm.Cond.code (⟨"java/lang/Long", "numberOfLeadingZeros", "(J)I"⟩ : MethodName) jdk_35_method_48_code 3 (some .int) :: ws) ({ frames := 1, cells := 0, slots := 0, locals := 14 } : Room)) (fun a U => a = #[(.long q1)] ∧ Z.Warmed39 U.vm ∧ U.heap = h0) (fun _ _ _ _ _ => True) (fun _ U o U' => ∃ v L, o = .returned v ∧ Q4 Z q1 u h0 n0 v U'.heap L ∧ FrameEnd U o U' L ({ frames := 1, cells := 0, slots := 0, locals := 14 } : Room).cells ({ frames := 1, cells := 0, slots := 0, locals := 14 } : Room).slots) := by
  refine MetFree.of_bodySF (plainFor_of_name pn_java_lang_Long) hisR ?_
  intro p e s m args below meth c s₁ Bd hml0 hP hK
  obtain ⟨rfl, hZ, hh⟩ := hP
  have hx := Bd.exec
  have hby := Bd.bytes
  have hlk : meth.locks = false := BodyLoose.notSynchronized Bd
  have hml : c.maxLocals = 3 := hml0
  have hown : s.vm.findClass "java/lang/Long" = some m.cls := findClass_of_methodNamed Bd.named
  have hnm := (name_of_methodNamed Bd.named Bd.method).1
  have X0 : Stand p l e ({ frames := 1, cells := 0, slots := 0, locals := 14 } : Room) s m #[(.long q1)] below meth c s₁ [] 0 0 := Stand.of_body Bd
  have e0 : s₁.heap = h0 := by rw [← hh, Bd.state]; rfl
  have N0 := Fr.nil n0
  show Go p.tables e below s (Q4 Z q1 u h0 n0) ({ frames := 1, cells := 0, slots := 0, locals := 14 } : Room).cells ({ frames := 1, cells := 0, slots := 0, locals := 14 } : Room).slots (s₁.setTop (entryFrame m #[(.long q1)] 3))
  refine Go.on (fun t k => castTop (ef_4 m q1) k) ?_
  show Go p.tables e below s _ _ _ (s₁.setTop (mkF m 0 #[.val (.long q1), .second, .unset] []))
  subst hu
  show Go p.tables e below s _ _ _ (s₁.setTop (mkF m 0 #[.val (.long (Int64.ofNat u)), .second, .unset] []))
  refine Go.on (fun t k => XS.lloadN X0.here hx rfl (hb hby d4_0) rfl k) ?_
  show Go p.tables e below s _ _ _ (s₁.setTop (mkF m 1 #[.val (.long (Int64.ofNat u)), .second, .unset] [(.long (Int64.ofNat u))]))
  refine Go.on (fun t k => XS.bipush X0.here hx rfl (hb hby d4_1) k) ?_
  show Go p.tables e below s _ _ _ (s₁.setTop (mkF m 3 #[.val (.long (Int64.ofNat u)), .second, .unset] [(.int (32 : Int32)), (.long (Int64.ofNat u))]))
  refine Go.on (fun t k => XS.lushr X0.here hx rfl (hb hby d4_3) rfl k) ?_
  show Go p.tables e below s _ _ _ (s₁.setTop (mkF m 4 #[.val (.long (Int64.ofNat u)), .second, .unset] [(.long (((Int64.ofNat u).toUInt64 >>> ((32 : Int32) &&& 0x3f).toInt64.toUInt64).toInt64))]))
  refine Go.on (fun t k => XS.l2i X0.here hx rfl (hb hby d4_4) rfl k) ?_
  show Go p.tables e below s _ _ _ (s₁.setTop (mkF m 5 #[.val (.long (Int64.ofNat u)), .second, .unset] [(.int ((((Int64.ofNat u).toUInt64 >>> ((32 : Int32) &&& 0x3f).toInt64.toUInt64).toInt64).toInt32))]))
  rw [own_hi hu2]
  show Go p.tables e below s _ _ _ (s₁.setTop (mkF m 5 #[.val (.long (Int64.ofNat u)), .second, .unset] [(.int (0 : Int32))]))
  refine Go.on (fun t k => XS.istoreN X0.here hx rfl (hb hby d4_5) rfl (l' := #[.val (.long (Int64.ofNat u)), .second, .val (.int (0 : Int32))]) rfl k) ?_
  show Go p.tables e below s _ _ _ (s₁.setTop (mkF m 6 #[.val (.long (Int64.ofNat u)), .second, .val (.int (0 : Int32))] []))
  refine Go.on (fun t k => XS.iloadN X0.here hx rfl (hb hby d4_6) rfl k) ?_
  show Go p.tables e below s _ _ _ (s₁.setTop (mkF m 7 #[.val (.long (Int64.ofNat u)), .second, .val (.int (0 : Int32))] [(.int (0 : Int32))]))
  refine Go.on (fun t k => XS.ifNo X0.here hx rfl (hb hby d4_7) rfl ((if0 _ _).trans (teq (rfl : (0 : Int32) = (0 : Int32))).2) k) ?_
  show Go p.tables e below s _ _ _ (s₁.setTop (mkF m 10 #[.val (.long (Int64.ofNat u)), .second, .val (.int (0 : Int32))] []))
  refine Go.on (fun t k => XS.bipush X0.here hx rfl (hb hby d4_10) k) ?_
  show Go p.tables e below s _ _ _ (s₁.setTop (mkF m 12 #[.val (.long (Int64.ofNat u)), .second, .val (.int (0 : Int32))] [(.int (32 : Int32))]))
  refine Go.on (fun t k => XS.lloadN X0.here hx rfl (hb hby d4_12) rfl k) ?_
  show Go p.tables e below s _ _ _ (s₁.setTop (mkF m 13 #[.val (.long (Int64.ofNat u)), .second, .val (.int (0 : Int32))] [(.long (Int64.ofNat u)), (.int (32 : Int32))]))
  refine Go.on (fun t k => XS.l2i X0.here hx rfl (hb hby d4_13) rfl k) ?_
  show Go p.tables e below s _ _ _ (s₁.setTop (mkF m 14 #[.val (.long (Int64.ofNat u)), .second, .val (.int (0 : Int32))] [(.int ((Int64.ofNat u).toInt32)), (.int (32 : Int32))]))
  rw [own_l2iEq]
  show Go p.tables e below s _ _ _ (s₁.setTop (mkF m 14 #[.val (.long (Int64.ofNat u)), .second, .val (.int (0 : Int32))] [(.int (Int32.ofNat u)), (.int (32 : Int32))]))
  obtain ⟨_, _, ⟨T1, L1, k1, n1⟩, -, X1, ⟨Lc1, hQ1, l1, y1, z1⟩, st1⟩ := Jvm.LawKit.callS X0 hx (y := (⟨"java/lang/Integer", "numberOfLeadingZeros", "(I)I"⟩ : MethodName)) hown (mvT hZ (hw _ (List.mem_of_getElem? (i := 19) rfl))) (mvT hZ (hw _ (List.mem_of_getElem? (i := 20) rfl))) (mvT hZ (hw _ (List.mem_of_getElem? (i := 21) rfl))) (mvT hZ (hw _ (List.mem_of_getElem? (i := 22) rfl))) (by decide) (backOf (W := 1) (rm5 l Z a0 hw [] (Int32.ofNat u) u h0 n0 Z0 rfl hu1 hu2) hZ (hw _ (List.mem_of_getElem? (i := 22) rfl)) (hw _ (List.mem_of_getElem? (i := 21) rfl)) (by decide) (by decide)) (g := (mkF m 14 #[.val (.long (Int64.ofNat u)), .second, .val (.int (0 : Int32))] [(.int (Int32.ofNat u)), (.int (32 : Int32))])) rfl (by rw [hml]; rfl) (argsL := [(.int (Int32.ofNat u))]) (rest := [(.int (32 : Int32))]) (lenOf pd__40_I_41_I rfl) rfl (by show 2 * 0 + _ ≤ _; exact Nat.le_of_eq rfl) (hb hby d4_14) (fun _ _ => ⟨rfl, e0, (by decide : 0 + 0 ≤ _), (by decide : 0 + 0 ≤ _)⟩)
  dsimp only [Pt.U, Pt.locs, Pt.cells, Pt.slots] at X1 l1 y1 z1 st1 hQ1
  subst l1 y1 z1
  obtain ⟨rfl, Nq1, e1⟩ := hQ1
  have Np2 := Fr.app N0 Nq1
  refine Go.on st1 ?_
  show Go p.tables e below s _ _ _ (T1.setTop (mkF m 17 #[.val (.long (Int64.ofNat u)), .second, .val (.int (0 : Int32))] [(.int (Int32.ofNat (31 - Nat.log2 u))), (.int (32 : Int32))]))
  refine Go.on (fun t k => XS.iadd X1.here hx rfl (hb hby d4_17) rfl k) ?_
  show Go p.tables e below s _ _ _ (T1.setTop (mkF m 18 #[.val (.long (Int64.ofNat u)), .second, .val (.int (0 : Int32))] [(.int ((32 : Int32) + (Int32.ofNat (31 - Nat.log2 u))))]))
  have hL : Nat.log2 u ≤ 31 := by have := (Nat.log2_lt (show u ≠ 0 by omega) (k := 32)).mpr (by omega); omega
  rw [show (32 : Int32) + Int32.ofNat (31 - Nat.log2 u) = Int32.ofNat (63 - Nat.log2 u) from (own_add 32 (31 - Nat.log2 u)).trans (by congr 1; omega)]
  show Go p.tables e below s _ _ _ (T1.setTop (mkF m 18 #[.val (.long (Int64.ofNat u)), .second, .val (.int (0 : Int32))] [(.int (Int32.ofNat (63 - Nat.log2 u)))]))
  refine Go.on (fun t k => XS.goto X1.here hx rfl (pc0 := 18) (pc' := 25) rfl (hb hby d4_18) (by decide) (by decide) k) ?_
  show Go p.tables e below s _ _ _ (T1.setTop (mkF m 25 #[.val (.long (Int64.ofNat u)), .second, .val (.int (0 : Int32))] [(.int (Int32.ofNat (63 - Nat.log2 u)))]))
  refine Go.retI X1 hx hlk Bd.returns (hb hby d4_25) (by decide) (by decide) e1 ?_
  exact ⟨rfl, Np2, rfl⟩
theorem d3_0 : decode prog_15_method_5_code 0 = .ok (.lload_n 0, 1) := by decide +kernel
theorem d3_1 : decode prog_15_method_5_code 1 = .ok (.ldc2_w 40, 3) := by decide +kernel
theorem d3_4 : decode prog_15_method_5_code 4 = .ok (.lcmp, 1) := by decide +kernel
theorem d3_5 : decode prog_15_method_5_code 5 = .ok (.ifCond .ge 6, 3) := by decide +kernel
theorem d3_8 : decode prog_15_method_5_code 8 = .ok (.lload_n 0, 1) := by decide +kernel
theorem d3_9 : decode prog_15_method_5_code 9 = .ok (.l2i, 1) := by decide +kernel
theorem d3_10 : decode prog_15_method_5_code 10 = .ok (.ireturn, 1) := by decide +kernel
theorem d3_11 : decode prog_15_method_5_code 11 = .ok (.bipush 64, 2) := by decide +kernel
theorem d3_13 : decode prog_15_method_5_code 13 = .ok (.lload_n 0, 1) := by decide +kernel
theorem d3_14 : decode prog_15_method_5_code 14 = .ok (.invokestatic 44, 3) := by decide +kernel
theorem d3_17 : decode prog_15_method_5_code 17 = .ok (.isub, 1) := by decide +kernel
theorem d3_18 : decode prog_15_method_5_code 18 = .ok (.bipush 12, 2) := by decide +kernel
theorem d3_20 : decode prog_15_method_5_code 20 = .ok (.isub, 1) := by decide +kernel
theorem d3_21 : decode prog_15_method_5_code 21 = .ok (.istore_n 2, 1) := by decide +kernel
theorem d3_22 : decode prog_15_method_5_code 22 = .ok (.sipush 4096, 3) := by decide +kernel
theorem d3_25 : decode prog_15_method_5_code 25 = .ok (.iload_n 2, 1) := by decide +kernel
theorem d3_26 : decode prog_15_method_5_code 26 = .ok (.iconst 1, 1) := by decide +kernel
theorem d3_27 : decode prog_15_method_5_code 27 = .ok (.isub, 1) := by decide +kernel
theorem d3_28 : decode prog_15_method_5_code 28 = .ok (.sipush 2048, 3) := by decide +kernel
theorem d3_31 : decode prog_15_method_5_code 31 = .ok (.imul, 1) := by decide +kernel
theorem d3_32 : decode prog_15_method_5_code 32 = .ok (.iadd, 1) := by decide +kernel
theorem d3_33 : decode prog_15_method_5_code 33 = .ok (.lload_n 0, 1) := by decide +kernel
theorem d3_34 : decode prog_15_method_5_code 34 = .ok (.iload_n 2, 1) := by decide +kernel
theorem d3_35 : decode prog_15_method_5_code 35 = .ok (.lushr, 1) := by decide +kernel
theorem d3_36 : decode prog_15_method_5_code 36 = .ok (.l2i, 1) := by decide +kernel
theorem d3_37 : decode prog_15_method_5_code 37 = .ok (.iadd, 1) := by decide +kernel
theorem d3_38 : decode prog_15_method_5_code 38 = .ok (.sipush 2048, 3) := by decide +kernel
theorem d3_41 : decode prog_15_method_5_code 41 = .ok (.isub, 1) := by decide +kernel
theorem d3_42 : decode prog_15_method_5_code 42 = .ok (.ireturn, 1) := by decide +kernel
theorem ef_3 (m : MethodId) (x0 : Int64) : entryFrame m #[(.long x0)] 3 = mkF m 0 #[.val (.long x0), .second, .unset] [] := by first | (simp [entryFrame, mkF, argsToLocals, Value.category]; done) | rfl
def Q3 (Z : State) (q1 : Int64) (u : Nat) (h0 : Heap) (n0 : Nat) (v : Option Value) (h : Heap) (L : List Loc) : Prop := v = some (.int (Int32.ofNat (own_bk u))) ∧ Fr n0 L ∧ h = h0
theorem pn_com_example_loomport_loomport_loadgen_Latencies : plainName "com/example/loomport/loomport/loadgen/Latencies" = true := by first | (simp [plainName, overriddenIn]; done) | decide +kernel
set_option maxRecDepth 65536 in
set_option maxHeartbeats 40000000 in
theorem rm3 (l : Launch) (Z : State) (a0 : Array Value) (hw : ∀ d ∈ tables_1, d.before a0 Z = true) (ws : List Jvm.Cond) (q1 : Int64) (u : Nat) (h0 : Heap) (n0 : Nat) (Z0 : n0 ≤ h0.size) (hu : q1 = Int64.ofNat u) (hu2 : u < 4294967296) :
    MetFree l (⟨"com/example/loomport/loomport/loadgen/Latencies", "bucket", "(J)I"⟩ : MethodName) (head1 (Jvm.Cond.code (⟨"com/example/loomport/loomport/loadgen/Latencies", "bucket", "(J)I"⟩ : MethodName) prog_15_method_5_code 3 (some .int) :: ws) ({ frames := 2, cells := 0, slots := 0, locals := 29 } : Room)) (fun a U => a = #[(.long q1)] ∧ Z.Warmed39 U.vm ∧ U.heap = h0) (fun _ _ _ _ _ => True) (fun _ U o U' => ∃ v L, o = .returned v ∧ Q3 Z q1 u h0 n0 v U'.heap L ∧ FrameEnd U o U' L ({ frames := 2, cells := 0, slots := 0, locals := 29 } : Room).cells ({ frames := 2, cells := 0, slots := 0, locals := 29 } : Room).slots) := by
  refine MetFree.of_bodySF (plainFor_of_name pn_com_example_loomport_loomport_loadgen_Latencies) hisR ?_
  intro p e s m args below meth c s₁ Bd hml0 hP hK
  obtain ⟨rfl, hZ, hh⟩ := hP
  have hx := Bd.exec
  have hby := Bd.bytes
  have hlk : meth.locks = false := BodyLoose.notSynchronized Bd
  have hml : c.maxLocals = 3 := hml0
  have hown : s.vm.findClass "com/example/loomport/loomport/loadgen/Latencies" = some m.cls := findClass_of_methodNamed Bd.named
  have hnm := (name_of_methodNamed Bd.named Bd.method).1
  have X0 : Stand p l e ({ frames := 2, cells := 0, slots := 0, locals := 29 } : Room) s m #[(.long q1)] below meth c s₁ [] 0 0 := Stand.of_body Bd
  have e0 : s₁.heap = h0 := by rw [← hh, Bd.state]; rfl
  have N0 := Fr.nil n0
  show Go p.tables e below s (Q3 Z q1 u h0 n0) ({ frames := 2, cells := 0, slots := 0, locals := 29 } : Room).cells ({ frames := 2, cells := 0, slots := 0, locals := 29 } : Room).slots (s₁.setTop (entryFrame m #[(.long q1)] 3))
  refine Go.on (fun t k => castTop (ef_3 m q1) k) ?_
  show Go p.tables e below s _ _ _ (s₁.setTop (mkF m 0 #[.val (.long q1), .second, .unset] []))
  subst hu
  show Go p.tables e below s _ _ _ (s₁.setTop (mkF m 0 #[.val (.long (Int64.ofNat u)), .second, .unset] []))
  refine Go.on (fun t k => XS.lloadN X0.here hx rfl (hb hby d3_0) rfl k) ?_
  show Go p.tables e below s _ _ _ (s₁.setTop (mkF m 1 #[.val (.long (Int64.ofNat u)), .second, .unset] [(.long (Int64.ofNat u))]))
  refine Go.on (fun t k => X0.ldc2Long hx hown (mvT hZ (hw _ (List.mem_of_getElem? (i := 14) rfl))) (g := (mkF m 1 #[.val (.long (Int64.ofNat u)), .second, .unset] [(.long (Int64.ofNat u))])) rfl (hb hby d3_1) t k) ?_
  show Go p.tables e below s _ _ _ (s₁.setTop (mkF m 4 #[.val (.long (Int64.ofNat u)), .second, .unset] [(.long (4096 : Int64)), (.long (Int64.ofNat u))]))
  refine Go.on (fun t k => XS.lcmp X0.here hx rfl (hb hby d3_4) rfl k) ?_
  show Go p.tables e below s _ _ _ (s₁.setTop (mkF m 5 #[.val (.long (Int64.ofNat u)), .second, .unset] [(.int (lcmpW (Int64.ofNat u) (4096 : Int64)))]))
  have hcmp : lcmpW (Int64.ofNat u) (4096 : Int64) < (0 : Int32) ↔ u < 4096 := by rw [lw_lt, Int64.lt_iff_toInt_lt, own_toIntL hu2]; show (u : Int) < 4096 ↔ _; omega
  by_cases hc : u < 4096
  · refine Go.on (fun t k => XS.ifNo X0.here hx rfl (hb hby d3_5) rfl ((if0 _ _).trans (tlt (hcmp.mpr hc)).2.1) k) ?_
    show Go p.tables e below s _ _ _ (s₁.setTop (mkF m 8 #[.val (.long (Int64.ofNat u)), .second, .unset] []))
    refine Go.on (fun t k => XS.lloadN X0.here hx rfl (hb hby d3_8) rfl k) ?_
    show Go p.tables e below s _ _ _ (s₁.setTop (mkF m 9 #[.val (.long (Int64.ofNat u)), .second, .unset] [(.long (Int64.ofNat u))]))
    refine Go.on (fun t k => XS.l2i X0.here hx rfl (hb hby d3_9) rfl k) ?_
    show Go p.tables e below s _ _ _ (s₁.setTop (mkF m 10 #[.val (.long (Int64.ofNat u)), .second, .unset] [(.int ((Int64.ofNat u).toInt32))]))
    rw [own_bkLow hc]
    show Go p.tables e below s _ _ _ (s₁.setTop (mkF m 10 #[.val (.long (Int64.ofNat u)), .second, .unset] [(.int (Int32.ofNat (own_bk u)))]))
    refine Go.retI X0 hx hlk Bd.returns (hb hby d3_10) (by decide) (by decide) e0 ?_
    exact ⟨rfl, N0, rfl⟩
  · refine Go.on (fun t k => XS.ifYes X0.here hx rfl (pc0 := 5) (pc' := 11) rfl (hb hby d3_5) rfl ((if0 _ _).trans (flt (fun q => hc (hcmp.mp q))).2.1) (by decide) (by decide) k) ?_
    show Go p.tables e below s _ _ _ (s₁.setTop (mkF m 11 #[.val (.long (Int64.ofNat u)), .second, .unset] []))
    obtain ⟨l1, l2⟩ := own_L (show 4096 ≤ u by omega) hu2
    refine Go.on (fun t k => XS.bipush X0.here hx rfl (hb hby d3_11) k) ?_
    show Go p.tables e below s _ _ _ (s₁.setTop (mkF m 13 #[.val (.long (Int64.ofNat u)), .second, .unset] [(.int (64 : Int32))]))
    refine Go.on (fun t k => XS.lloadN X0.here hx rfl (hb hby d3_13) rfl k) ?_
    show Go p.tables e below s _ _ _ (s₁.setTop (mkF m 14 #[.val (.long (Int64.ofNat u)), .second, .unset] [(.long (Int64.ofNat u)), (.int (64 : Int32))]))
    obtain ⟨_, _, ⟨T1, L1, k1, n1⟩, -, X1, ⟨Lc1, hQ1, l1, y1, z1⟩, st1⟩ := Jvm.LawKit.callS X0 hx (y := (⟨"java/lang/Long", "numberOfLeadingZeros", "(J)I"⟩ : MethodName)) hown (mvT hZ (hw _ (List.mem_of_getElem? (i := 15) rfl))) (mvT hZ (hw _ (List.mem_of_getElem? (i := 16) rfl))) (mvT hZ (hw _ (List.mem_of_getElem? (i := 17) rfl))) (mvT hZ (hw _ (List.mem_of_getElem? (i := 18) rfl))) (by decide) (backOf (W := 1) (rm4 l Z a0 hw [] (Int64.ofNat u) u h0 n0 Z0 rfl (by omega) hu2) hZ (hw _ (List.mem_of_getElem? (i := 18) rfl)) (hw _ (List.mem_of_getElem? (i := 17) rfl)) (by decide) (by decide)) (g := (mkF m 14 #[.val (.long (Int64.ofNat u)), .second, .unset] [(.long (Int64.ofNat u)), (.int (64 : Int32))])) rfl (by rw [hml]; rfl) (argsL := [(.long (Int64.ofNat u))]) (rest := [(.int (64 : Int32))]) (lenOf pd__40_J_41_I rfl) rfl (by show 2 * 0 + _ ≤ _; exact Nat.le_of_eq rfl) (hb hby d3_14) (fun _ _ => ⟨rfl, e0, (by decide : 0 + 0 ≤ _), (by decide : 0 + 0 ≤ _)⟩)
    dsimp only [Pt.U, Pt.locs, Pt.cells, Pt.slots] at X1 l1 y1 z1 st1 hQ1
    subst l1 y1 z1
    obtain ⟨rfl, Nq1, e1⟩ := hQ1
    have Np2 := Fr.app N0 Nq1
    refine Go.on st1 ?_
    show Go p.tables e below s _ _ _ (T1.setTop (mkF m 17 #[.val (.long (Int64.ofNat u)), .second, .unset] [(.int (Int32.ofNat (63 - Nat.log2 u))), (.int (64 : Int32))]))
    refine Go.on (fun t k => XS.isub X1.here hx rfl (hb hby d3_17) rfl k) ?_
    show Go p.tables e below s _ _ _ (T1.setTop (mkF m 18 #[.val (.long (Int64.ofNat u)), .second, .unset] [(.int ((64 : Int32) - (Int32.ofNat (63 - Nat.log2 u))))]))
    refine Go.on (fun t k => XS.bipush X1.here hx rfl (hb hby d3_18) k) ?_
    show Go p.tables e below s _ _ _ (T1.setTop (mkF m 20 #[.val (.long (Int64.ofNat u)), .second, .unset] [(.int (12 : Int32)), (.int ((64 : Int32) - (Int32.ofNat (63 - Nat.log2 u))))]))
    refine Go.on (fun t k => XS.isub X1.here hx rfl (hb hby d3_20) rfl k) ?_
    show Go p.tables e below s _ _ _ (T1.setTop (mkF m 21 #[.val (.long (Int64.ofNat u)), .second, .unset] [(.int (((64 : Int32) - (Int32.ofNat (63 - Nat.log2 u))) - (12 : Int32)))]))
    rw [own_sh l1 l2]
    show Go p.tables e below s _ _ _ (T1.setTop (mkF m 21 #[.val (.long (Int64.ofNat u)), .second, .unset] [(.int (Int32.ofNat (Nat.log2 u - 11)))]))
    refine Go.on (fun t k => XS.istoreN X1.here hx rfl (hb hby d3_21) rfl (l' := #[.val (.long (Int64.ofNat u)), .second, .val (.int (Int32.ofNat (Nat.log2 u - 11)))]) rfl k) ?_
    show Go p.tables e below s _ _ _ (T1.setTop (mkF m 22 #[.val (.long (Int64.ofNat u)), .second, .val (.int (Int32.ofNat (Nat.log2 u - 11)))] []))
    refine Go.on (fun t k => XS.sipush X1.here hx rfl (hb hby d3_22) k) ?_
    show Go p.tables e below s _ _ _ (T1.setTop (mkF m 25 #[.val (.long (Int64.ofNat u)), .second, .val (.int (Int32.ofNat (Nat.log2 u - 11)))] [(.int (4096 : Int32))]))
    refine Go.on (fun t k => XS.iloadN X1.here hx rfl (hb hby d3_25) rfl k) ?_
    show Go p.tables e below s _ _ _ (T1.setTop (mkF m 26 #[.val (.long (Int64.ofNat u)), .second, .val (.int (Int32.ofNat (Nat.log2 u - 11)))] [(.int (Int32.ofNat (Nat.log2 u - 11))), (.int (4096 : Int32))]))
    refine Go.on (fun t k => XS.iconst X1.here hx rfl (hb hby d3_26) k) ?_
    show Go p.tables e below s _ _ _ (T1.setTop (mkF m 27 #[.val (.long (Int64.ofNat u)), .second, .val (.int (Int32.ofNat (Nat.log2 u - 11)))] [(.int (1 : Int32)), (.int (Int32.ofNat (Nat.log2 u - 11))), (.int (4096 : Int32))]))
    refine Go.on (fun t k => XS.isub X1.here hx rfl (hb hby d3_27) rfl k) ?_
    show Go p.tables e below s _ _ _ (T1.setTop (mkF m 28 #[.val (.long (Int64.ofNat u)), .second, .val (.int (Int32.ofNat (Nat.log2 u - 11)))] [(.int ((Int32.ofNat (Nat.log2 u - 11)) - (1 : Int32))), (.int (4096 : Int32))]))
    refine Go.on (fun t k => XS.sipush X1.here hx rfl (hb hby d3_28) k) ?_
    show Go p.tables e below s _ _ _ (T1.setTop (mkF m 31 #[.val (.long (Int64.ofNat u)), .second, .val (.int (Int32.ofNat (Nat.log2 u - 11)))] [(.int (2048 : Int32)), (.int ((Int32.ofNat (Nat.log2 u - 11)) - (1 : Int32))), (.int (4096 : Int32))]))
    refine Go.on (fun t k => XS.imul X1.here hx rfl (hb hby d3_31) rfl k) ?_
    show Go p.tables e below s _ _ _ (T1.setTop (mkF m 32 #[.val (.long (Int64.ofNat u)), .second, .val (.int (Int32.ofNat (Nat.log2 u - 11)))] [(.int (((Int32.ofNat (Nat.log2 u - 11)) - (1 : Int32)) * (2048 : Int32))), (.int (4096 : Int32))]))
    refine Go.on (fun t k => XS.iadd X1.here hx rfl (hb hby d3_32) rfl k) ?_
    show Go p.tables e below s _ _ _ (T1.setTop (mkF m 33 #[.val (.long (Int64.ofNat u)), .second, .val (.int (Int32.ofNat (Nat.log2 u - 11)))] [(.int ((4096 : Int32) + (((Int32.ofNat (Nat.log2 u - 11)) - (1 : Int32)) * (2048 : Int32))))]))
    refine Go.on (fun t k => XS.lloadN X1.here hx rfl (hb hby d3_33) rfl k) ?_
    show Go p.tables e below s _ _ _ (T1.setTop (mkF m 34 #[.val (.long (Int64.ofNat u)), .second, .val (.int (Int32.ofNat (Nat.log2 u - 11)))] [(.long (Int64.ofNat u)), (.int ((4096 : Int32) + (((Int32.ofNat (Nat.log2 u - 11)) - (1 : Int32)) * (2048 : Int32))))]))
    refine Go.on (fun t k => XS.iloadN X1.here hx rfl (hb hby d3_34) rfl k) ?_
    show Go p.tables e below s _ _ _ (T1.setTop (mkF m 35 #[.val (.long (Int64.ofNat u)), .second, .val (.int (Int32.ofNat (Nat.log2 u - 11)))] [(.int (Int32.ofNat (Nat.log2 u - 11))), (.long (Int64.ofNat u)), (.int ((4096 : Int32) + (((Int32.ofNat (Nat.log2 u - 11)) - (1 : Int32)) * (2048 : Int32))))]))
    refine Go.on (fun t k => XS.lushr X1.here hx rfl (hb hby d3_35) rfl k) ?_
    show Go p.tables e below s _ _ _ (T1.setTop (mkF m 36 #[.val (.long (Int64.ofNat u)), .second, .val (.int (Int32.ofNat (Nat.log2 u - 11)))] [(.long (((Int64.ofNat u).toUInt64 >>> ((Int32.ofNat (Nat.log2 u - 11)) &&& 0x3f).toInt64.toUInt64).toInt64)), (.int ((4096 : Int32) + (((Int32.ofNat (Nat.log2 u - 11)) - (1 : Int32)) * (2048 : Int32))))]))
    refine Go.on (fun t k => XS.l2i X1.here hx rfl (hb hby d3_36) rfl k) ?_
    show Go p.tables e below s _ _ _ (T1.setTop (mkF m 37 #[.val (.long (Int64.ofNat u)), .second, .val (.int (Int32.ofNat (Nat.log2 u - 11)))] [(.int ((((Int64.ofNat u).toUInt64 >>> ((Int32.ofNat (Nat.log2 u - 11)) &&& 0x3f).toInt64.toUInt64).toInt64).toInt32)), (.int ((4096 : Int32) + (((Int32.ofNat (Nat.log2 u - 11)) - (1 : Int32)) * (2048 : Int32))))]))
    refine Go.on (fun t k => XS.iadd X1.here hx rfl (hb hby d3_37) rfl k) ?_
    show Go p.tables e below s _ _ _ (T1.setTop (mkF m 38 #[.val (.long (Int64.ofNat u)), .second, .val (.int (Int32.ofNat (Nat.log2 u - 11)))] [(.int (((4096 : Int32) + (((Int32.ofNat (Nat.log2 u - 11)) - (1 : Int32)) * (2048 : Int32))) + ((((Int64.ofNat u).toUInt64 >>> ((Int32.ofNat (Nat.log2 u - 11)) &&& 0x3f).toInt64.toUInt64).toInt64).toInt32)))]))
    refine Go.on (fun t k => XS.sipush X1.here hx rfl (hb hby d3_38) k) ?_
    show Go p.tables e below s _ _ _ (T1.setTop (mkF m 41 #[.val (.long (Int64.ofNat u)), .second, .val (.int (Int32.ofNat (Nat.log2 u - 11)))] [(.int (2048 : Int32)), (.int (((4096 : Int32) + (((Int32.ofNat (Nat.log2 u - 11)) - (1 : Int32)) * (2048 : Int32))) + ((((Int64.ofNat u).toUInt64 >>> ((Int32.ofNat (Nat.log2 u - 11)) &&& 0x3f).toInt64.toUInt64).toInt64).toInt32)))]))
    refine Go.on (fun t k => XS.isub X1.here hx rfl (hb hby d3_41) rfl k) ?_
    show Go p.tables e below s _ _ _ (T1.setTop (mkF m 42 #[.val (.long (Int64.ofNat u)), .second, .val (.int (Int32.ofNat (Nat.log2 u - 11)))] [(.int ((((4096 : Int32) + (((Int32.ofNat (Nat.log2 u - 11)) - (1 : Int32)) * (2048 : Int32))) + ((((Int64.ofNat u).toUInt64 >>> ((Int32.ofNat (Nat.log2 u - 11)) &&& 0x3f).toInt64.toUInt64).toInt64).toInt32)) - (2048 : Int32)))]))
    rw [own_bkEnd (by omega) hu2]
    show Go p.tables e below s _ _ _ (T1.setTop (mkF m 42 #[.val (.long (Int64.ofNat u)), .second, .val (.int (Int32.ofNat (Nat.log2 u - 11)))] [(.int (Int32.ofNat (own_bk u)))]))
    refine Go.retI X1 hx hlk Bd.returns (hb hby d3_42) (by decide) (by decide) e1 ?_
    exact ⟨rfl, Np2, rfl⟩
theorem d1_0 : decode prog_15_method_1_code 0 = .ok (.aload_n 0, 1) := by decide +kernel
theorem d1_1 : decode prog_15_method_1_code 1 = .ok (.invokespecial 3, 3) := by decide +kernel
theorem d1_4 : decode prog_15_method_1_code 4 = .ok (.aload_n 0, 1) := by decide +kernel
theorem d1_5 : decode prog_15_method_1_code 5 = .ok (.ldc2_w 9, 3) := by decide +kernel
theorem d1_8 : decode prog_15_method_1_code 8 = .ok (.invokestatic 11, 3) := by decide +kernel
theorem d1_11 : decode prog_15_method_1_code 11 = .ok (.iconst 1, 1) := by decide +kernel
theorem d1_12 : decode prog_15_method_1_code 12 = .ok (.iadd, 1) := by decide +kernel
theorem d1_13 : decode prog_15_method_1_code 13 = .ok (.newarray .long, 2) := by decide +kernel
theorem d1_15 : decode prog_15_method_1_code 15 = .ok (.putfield 15, 3) := by decide +kernel
theorem d1_18 : decode prog_15_method_1_code 18 = .ok (.return_, 1) := by decide +kernel
theorem ef_1 (m : MethodId) (x0 : Addr) : entryFrame m #[(.ref x0)] 1 = mkF m 0 #[.val (.ref x0)] [] := by first | (simp [entryFrame, mkF, argsToLocals, Value.category]; done) | rfl
def Q1 (Z : State) (a1 : Addr) (u1 : Value) (u2 : Value) (h0 : Heap) (n0 : Nat) (v : Option Value) (h : Heap) (L : List Loc) : Prop := ∃ (cc : Addr), v = none ∧ Fr n0 L ∧ Keep h0 h [a1] ∧ n0 ≤ cc ∧ h0.size ≤ cc ∧ Fld Z h a1 "com/example/loomport/loomport/loadgen/Latencies" "counts" "[J" (.ref cc) ∧ Fld Z h a1 "com/example/loomport/loomport/loadgen/Latencies" "count" "J" u2 ∧ Cnt Z h cc (fun _ => 0)
set_option maxRecDepth 65536 in
set_option maxHeartbeats 40000000 in
theorem rm1 (l : Launch) (Z : State) (a0 : Array Value) (hw : ∀ d ∈ tables_1, d.before a0 Z = true) (ws : List Jvm.Cond) (a1 : Addr) (u1 : Value) (u2 : Value) (h0 : Heap) (n0 : Nat) (Z0 : n0 ≤ h0.size) (E_a1 : Exa Z h0 a1 "com/example/loomport/loomport/loadgen/Latencies") (ge_a1 : n0 ≤ a1) (F_counts_a1 : Fld Z h0 a1 "com/example/loomport/loomport/loadgen/Latencies" "counts" "[J" u1) (F_count_a1 : Fld Z h0 a1 "com/example/loomport/loomport/loadgen/Latencies" "count" "J" u2) :
    MetFree l (⟨"com/example/loomport/loomport/loadgen/Latencies", "<init>", "()V"⟩ : MethodName) (head1 (Jvm.Cond.code (⟨"com/example/loomport/loomport/loadgen/Latencies", "<init>", "()V"⟩ : MethodName) prog_15_method_1_code 1 none :: ws) ({ frames := 3, cells := 1, slots := 45056, locals := 44 } : Room)) (fun a U => a = #[(.ref a1)] ∧ Z.Warmed39 U.vm ∧ U.heap = h0) (fun _ _ _ _ _ => True) (fun _ U o U' => ∃ v L, o = .returned v ∧ Q1 Z a1 u1 u2 h0 n0 v U'.heap L ∧ FrameEnd U o U' L ({ frames := 3, cells := 1, slots := 45056, locals := 44 } : Room).cells ({ frames := 3, cells := 1, slots := 45056, locals := 44 } : Room).slots) := by
  refine MetFree.of_bodySF (plainFor_of_name pn_com_example_loomport_loomport_loadgen_Latencies) hisR ?_
  intro p e s m args below meth c s₁ Bd hml0 hP hK
  obtain ⟨rfl, hZ, hh⟩ := hP
  have hx := Bd.exec
  have hby := Bd.bytes
  have hlk : meth.locks = false := BodyLoose.notSynchronized Bd
  have hml : c.maxLocals = 1 := hml0
  have hown : s.vm.findClass "com/example/loomport/loomport/loadgen/Latencies" = some m.cls := findClass_of_methodNamed Bd.named
  have hnm := (name_of_methodNamed Bd.named Bd.method).1
  have X0 : Stand p l e ({ frames := 3, cells := 1, slots := 45056, locals := 44 } : Room) s m #[(.ref a1)] below meth c s₁ [] 0 0 := Stand.of_body Bd
  have e0 : s₁.heap = h0 := by rw [← hh, Bd.state]; rfl
  have N0 := Fr.nil n0
  show Go p.tables e below s (Q1 Z a1 u1 u2 h0 n0) ({ frames := 3, cells := 1, slots := 45056, locals := 44 } : Room).cells ({ frames := 3, cells := 1, slots := 45056, locals := 44 } : Room).slots (s₁.setTop (entryFrame m #[(.ref a1)] 1))
  refine Go.on (fun t k => castTop (ef_1 m a1) k) ?_
  show Go p.tables e below s _ _ _ (s₁.setTop (mkF m 0 #[.val (.ref a1)] []))
  refine Go.on (fun t k => XS.aloadN X0.here hx rfl (hb hby d1_0) rfl rfl k) ?_
  show Go p.tables e below s _ _ _ (s₁.setTop (mkF m 1 #[.val (.ref a1)] [(.ref a1)]))
  obtain ⟨T1, X1, e1, st1⟩ := initO X0 hx hZ hown (hw _ (List.mem_of_getElem? (i := 7) rfl)) (hw _ (List.mem_of_getElem? (i := 8) rfl)) (hw _ (List.mem_of_getElem? (i := 9) rfl)) e0 (g := (mkF m 1 #[.val (.ref a1)] [(.ref a1)])) rfl (by rw [hml]; rfl) rfl (hb hby d1_1) (by decide) (W := 0) (by show 2 * 0 + _ ≤ _; exact Nat.le_of_eq rfl) (by decide)
  refine Go.on st1 ?_
  show Go p.tables e below s _ _ _ (T1.setTop (mkF m 4 #[.val (.ref a1)] []))
  refine Go.on (fun t k => XS.aloadN X1.here hx rfl (hb hby d1_4) rfl rfl k) ?_
  show Go p.tables e below s _ _ _ (T1.setTop (mkF m 5 #[.val (.ref a1)] [(.ref a1)]))
  refine Go.on (fun t k => X1.ldc2Long hx hown (mvT hZ (hw _ (List.mem_of_getElem? (i := 10) rfl))) (g := (mkF m 5 #[.val (.ref a1)] [(.ref a1)])) rfl (hb hby d1_5) t k) ?_
  show Go p.tables e below s _ _ _ (T1.setTop (mkF m 8 #[.val (.ref a1)] [(.long (4294967295 : Int64)), (.ref a1)]))
  obtain ⟨_, _, ⟨T2, L2, k2, n2⟩, -, X2, ⟨Lc2, hQ2, l2, y2, z2⟩, st2⟩ := Jvm.LawKit.callS X1 hx (y := (⟨"com/example/loomport/loomport/loadgen/Latencies", "bucket", "(J)I"⟩ : MethodName)) hown (mvT hZ (hw _ (List.mem_of_getElem? (i := 11) rfl))) (mvT hZ (hw _ (List.mem_of_getElem? (i := 12) rfl))) (mvT hZ (hw _ (List.mem_of_getElem? (i := 3) rfl))) (mvT hZ (hw _ (List.mem_of_getElem? (i := 13) rfl))) (by decide) (backOf (W := 1) (rm3 l Z a0 hw [] (4294967295 : Int64) 4294967295 h0 n0 Z0 rfl (by decide)) hZ (hw _ (List.mem_of_getElem? (i := 13) rfl)) (hw _ (List.mem_of_getElem? (i := 3) rfl)) (by decide) (by decide)) (g := (mkF m 8 #[.val (.ref a1)] [(.long (4294967295 : Int64)), (.ref a1)])) rfl (by rw [hml]; rfl) (argsL := [(.long (4294967295 : Int64))]) (rest := [(.ref a1)]) (lenOf pd__40_J_41_I rfl) rfl (by show 2 * 0 + _ ≤ _; exact Nat.le_of_eq rfl) (hb hby d1_8) (fun _ _ => ⟨rfl, e1, (by decide : 0 + 0 ≤ _), (by decide : 0 + 0 ≤ _)⟩)
  dsimp only [Pt.U, Pt.locs, Pt.cells, Pt.slots] at X2 l2 y2 z2 st2 hQ2
  subst l2 y2 z2
  obtain ⟨rfl, Nq2, e2⟩ := hQ2
  have Np3 := Fr.app N0 Nq2
  refine Go.on st2 ?_
  show Go p.tables e below s _ _ _ (T2.setTop (mkF m 11 #[.val (.ref a1)] [(.int (Int32.ofNat (own_bk 4294967295))), (.ref a1)]))
  rw [show own_bk 4294967295 = 45055 by rw [own_bk, if_neg (by decide), own_log31 (by decide) (by decide)]]
  show Go p.tables e below s _ _ _ (T2.setTop (mkF m 11 #[.val (.ref a1)] [(.int (Int32.ofNat 45055)), (.ref a1)]))
  refine Go.on (fun t k => XS.iconst X2.here hx rfl (hb hby d1_11) k) ?_
  show Go p.tables e below s _ _ _ (T2.setTop (mkF m 12 #[.val (.ref a1)] [(.int (1 : Int32)), (.int (Int32.ofNat 45055)), (.ref a1)]))
  refine Go.on (fun t k => XS.iadd X2.here hx rfl (hb hby d1_12) rfl k) ?_
  show Go p.tables e below s _ _ _ (T2.setTop (mkF m 13 #[.val (.ref a1)] [(.int ((Int32.ofNat 45055) + (1 : Int32))), (.ref a1)]))
  rw [show Int32.ofNat 45055 + (1 : Int32) = (45056 : Int32) by decide]
  show Go p.tables e below s _ _ _ (T2.setTop (mkF m 13 #[.val (.ref a1)] [(.int (45056 : Int32)), (.ref a1)]))
  obtain ⟨T4, h4, k4, X4, e4, E4, A4, st4⟩ := newP X2 hx hZ (hw _ (List.mem_of_getElem? (i := 23) rfl)) e2 (g := (mkF m 13 #[.val (.ref a1)] [(.int (45056 : Int32)), (.ref a1)])) rfl (hb hby d1_13) rfl (by decide) (cap := 45056) (by decide) (by decide) (by decide) (by decide)
  obtain ⟨b4, g4⟩ : ∃ z, z = h0.size := ⟨_, rfl⟩
  rw [← g4] at A4 st4
  have ne5 : a1 ≠ b4 := Nat.ne_of_lt (Nat.lt_of_lt_of_eq E_a1.lt g4.symm)
  have ge6 : n0 ≤ b4 := Nat.le_trans Z0 (Nat.le_of_eq g4.symm)
  have sz7 : h0.size ≤ b4 := Nat.le_trans (Keep.refl h0 [a1]).1 (Nat.le_of_eq g4.symm)
  have E_a1_8 := E_a1.ext E4
  have F_counts_a1_9 := F_counts_a1.ext E4
  have F_count_a1_10 := F_count_a1.ext E4
  have Zp11 := Nat.le_trans Z0 E4.1
  have Kp12 := (Keep.refl h0 [a1]).ext E4
  have Cb4_14 : Cnt Z h4 b4 (fun _ => 0) := Cnt.new A4
  refine Go.on st4 ?_
  show Go p.tables e below s _ _ _ (T4.setTop (mkF m 15 #[.val (.ref a1)] [(.ref b4), (.ref a1)]))
  obtain ⟨T15, h15, X15, e15, W15, st15⟩ := putF X4 hx hZ hown (host := "") (Or.inl (hw _ (List.mem_of_getElem? (i := 24) rfl))) Via.refl e4 F_counts_a1_9 E_a1_8 (Or.inr ⟨(hw _ (List.mem_of_getElem? (i := 25) rfl)), rfl, hnm⟩) (hw _ (List.mem_of_getElem? (i := 2) rfl)) (ty := (.array .long)) (by decide) rfl rfl (g := (mkF m 15 #[.val (.ref a1)] [(.ref b4), (.ref a1)])) rfl rfl (hb hby d1_15)
  have E_a1_16 := E_a1_8.wr W15
  have F_counts_a1_17 := F_counts_a1_9.same W15
  have F_count_a1_18 := F_count_a1_10.other W15 (Or.inr (slot_ne (Or.inl (hw _ (List.mem_of_getElem? (i := 39) rfl))) (Or.inr (hw _ (List.mem_of_getElem? (i := 25) rfl))) (by decide) (t := .long) (t' := (.array .long)) (by decide) (by decide)))
  have Cb4_19 := Cb4_14.other W15 (Ne.symm ne5)
  have Zp20 := Nat.le_trans Zp11 (Keep.of_wr W15).1
  have Kp21 := Kp12.wr W15 (Or.inl (List.mem_of_getElem? (i := 0) rfl))
  have Np22 := Fr.snoc X15 Np3 ge_a1
  refine Go.on st15 ?_
  show Go p.tables e below s _ _ _ (T15.setTop (mkF m 18 #[.val (.ref a1)] []))
  refine Go.retV X15 hx hlk Bd.returns (hb hby d1_18) (by decide) (by decide) e15 ?_
  exact ⟨b4, rfl, Np22, Kp21, ge6, sz7, F_counts_a1_17, F_count_a1_18, Cb4_19⟩
def own_maxL (a b : Int64) : Int64 := if a < b then b else a
def own_minL (a b : Int64) : Int64 := if b < a then b else a
def own_cl (x : Int64) : Int64 := own_minL (own_maxL x (0 : Int64)) (4294967295 : Int64)
def own_u (x : Int64) : Nat := (own_cl x).toInt.toNat
theorem own_cl_r (x : Int64) : 0 ≤ (own_cl x).toInt ∧ (own_cl x).toInt ≤ 4294967295 := by
  have e0 : (0 : Int64).toInt = 0 := rfl
  have e1 : (4294967295 : Int64).toInt = 4294967295 := rfl
  unfold own_cl own_minL own_maxL
  simp only [Int64.lt_iff_toInt_lt]
  repeat' split
  all_goals simp only [Int64.lt_iff_toInt_lt, e0, e1] at *
  all_goals omega
theorem own_u_lt (x : Int64) : own_u x < 4294967296 := by have := own_cl_r x; unfold own_u; omega
theorem own_u_eq (x : Int64) : own_cl x = Int64.ofNat (own_u x) := by
  have := own_cl_r x
  apply Int64.toInt_inj.mp
  rw [own_toIntL (own_u_lt x)]; unfold own_u; omega
def own_inc (f : Nat → Int64) (i : Nat) : Nat → Int64 := fun j => if j = i then f j + 1 else f j
def own_both (f g : Nat → Int64) (i : Nat) : Nat → Int64 := fun j => if j < i then f j + g j else f j
def own_low (p : Int32) : Int64 := if p < (4096 : Int32) then p.toInt64 else (((p - (4096 : Int32)) % (2048 : Int32) + (2048 : Int32)).toInt64 <<< (((p - (4096 : Int32)) / (2048 : Int32) + (1 : Int32)) &&& 0x3f).toInt64)
/-- the first place, from i on, at which the sum reaches the rank -/
def own_scan (f : Nat → Int64) (r : Int64) : Nat → Nat → Int64 → Int64
  | 0, _, _ => 0
  | k + 1, i, S => if S + f i < r then own_scan f r k (i + 1) (S + f i) else own_low (Int32.ofNat i)
def own_rank (n : Int64) (p : Int32) : Int64 := own_maxL (1 : Int64) ((n * p.toInt64 + (99 : Int64)) / (100 : Int64))
def own_pct (f : Nat → Int64) (n : Int64) (p : Int32) : Int64 := own_scan f (own_rank n p) 45056 0 0
theorem own_incF {Z : State} {h : Heap} {a : Addr} {f : Nat → Int64} {i : Nat} {x : Int64} (hx : x = f i + 1) (F : Cnt Z h a (fun j => if j = i then x else f j)) : Cnt Z h a (own_inc f i) := by
  have e : (fun j => if j = i then x else f j) = own_inc f i := funext fun j => by
    unfold own_inc; by_cases q : j = i
    · subst q; simp [hx]
    · simp [q]
  rw [← e]; exact F
theorem own_bothF {Z : State} {h : Heap} {a : Addr} {f g : Nat → Int64} {i : Nat} {x : Int64} (hx : x = own_both f g i i + g i) (F : Cnt Z h a (fun j => if j = i then x else own_both f g i j)) : Cnt Z h a (own_both f g (i + 1)) := by
  have e : (fun j => if j = i then x else own_both f g i j) = own_both f g (i + 1) := funext fun j => by
    unfold own_both at *; by_cases q : j = i
    · subst q; simp [hx]
    · by_cases r : j < i
      · simp [q, r, show j < i + 1 by omega]
      · simp [q, r, show ¬ j < i + 1 by omega]
  rw [← e]; exact F
theorem own_same (bx by' : Nat) : own_scan (own_both (own_inc (fun _ => 0) bx) (own_inc (fun _ => 0) by') 45056) = own_scan (own_both (own_inc (fun _ => 0) bx) (own_inc (fun _ => 0) by') 45056) := rfl
theorem own_scan_congr {f g : Nat → Int64} (r : Int64) : ∀ (k i : Nat) (S : Int64), (∀ j, i ≤ j → j < i + k → f j = g j) → own_scan f r k i S = own_scan g r k i S
  | 0, _, _, _ => rfl
  | k + 1, i, S, h => by
    unfold own_scan
    rw [h i (by omega) (by omega), own_scan_congr r k (i + 1) _ fun j h1 h2 => h j (by omega) (by omega)]
theorem own_pctEq (bx b2 : Nat) (p : Int32) : own_pct (own_both (own_inc (fun _ => 0) bx) (own_inc (fun _ => 0) b2) 45056) (0 + 1 + (0 + 1)) p = own_pct (own_inc (own_inc (fun _ => 0) bx) b2) (0 + 1 + 1) p := by
  unfold own_pct
  rw [show (0 + 1 + (0 + 1) : Int64) = 0 + 1 + 1 by decide]
  refine own_scan_congr _ _ _ _ fun j _ h => ?_
  unfold own_both own_inc
  rw [if_pos (by omega)]
  by_cases q1 : j = bx <;> by_cases q2 : j = b2
  · simp only [if_pos q1, if_pos q2]; decide
  · simp only [if_pos q1, if_neg q2]; decide
  · simp only [if_neg q1, if_pos q2]; decide
  · simp only [if_neg q1, if_neg q2]; decide

theorem d7_0 : decode jdk_29_method_66_code 0 = .ok (.lload_n 0, 1) := by decide +kernel
theorem d7_1 : decode jdk_29_method_66_code 1 = .ok (.lload_n 2, 1) := by decide +kernel
theorem d7_2 : decode jdk_29_method_66_code 2 = .ok (.lcmp, 1) := by decide +kernel
theorem d7_3 : decode jdk_29_method_66_code 3 = .ok (.ifCond .lt 7, 3) := by decide +kernel
theorem d7_6 : decode jdk_29_method_66_code 6 = .ok (.lload_n 0, 1) := by decide +kernel
theorem d7_7 : decode jdk_29_method_66_code 7 = .ok (.goto 4, 3) := by decide +kernel
theorem d7_10 : decode jdk_29_method_66_code 10 = .ok (.lload_n 2, 1) := by decide +kernel
theorem d7_11 : decode jdk_29_method_66_code 11 = .ok (.lreturn, 1) := by decide +kernel
theorem ef_7 (m : MethodId) (x0 : Int64) (x1 : Int64) : entryFrame m #[(.long x0), (.long x1)] 4 = mkF m 0 #[.val (.long x0), .second, .val (.long x1), .second] [] := by first | (simp [entryFrame, mkF, argsToLocals, Value.category]; done) | rfl
def Q7 (Z : State) (q1 : Int64) (q2 : Int64) (h0 : Heap) (n0 : Nat) (v : Option Value) (h : Heap) (L : List Loc) : Prop := v = some (.long (own_maxL q1 q2)) ∧ Fr n0 L ∧ h = h0
set_option maxRecDepth 65536 in
set_option maxHeartbeats 40000000 in
theorem rm7 (l : Launch) (Z : State) (a0 : Array Value) (hw : ∀ d ∈ tables_1, d.before a0 Z = true) (ws : List Jvm.Cond) (q1 : Int64) (q2 : Int64) (h0 : Heap) (n0 : Nat) (Z0 : n0 ≤ h0.size)  :
    MetFree l (⟨"java/lang/Math", "max", "(JJ)J"⟩ : MethodName) (head1 (Jvm.Cond.code (⟨"java/lang/Math", "max", "(JJ)J"⟩ : MethodName) jdk_29_method_66_code 4 (some .long) :: ws) ({ frames := 0, cells := 0, slots := 0, locals := 0 } : Room)) (fun a U => a = #[(.long q1), (.long q2)] ∧ Z.Warmed39 U.vm ∧ U.heap = h0) (fun _ _ _ _ _ => True) (fun _ U o U' => ∃ v L, o = .returned v ∧ Q7 Z q1 q2 h0 n0 v U'.heap L ∧ FrameEnd U o U' L ({ frames := 0, cells := 0, slots := 0, locals := 0 } : Room).cells ({ frames := 0, cells := 0, slots := 0, locals := 0 } : Room).slots) := by
  refine MetFree.of_bodySF (Jvm.Free.JP.mathPlain rfl (by decide +kernel)) hisR ?_
  intro p e s m args below meth c s₁ Bd hml0 hP hK
  obtain ⟨rfl, hZ, hh⟩ := hP
  have hx := Bd.exec
  have hby := Bd.bytes
  have hlk : meth.locks = false := BodyLoose.notSynchronized Bd
  have hml : c.maxLocals = 4 := hml0
  have hown : s.vm.findClass "java/lang/Math" = some m.cls := findClass_of_methodNamed Bd.named
  have hnm := (name_of_methodNamed Bd.named Bd.method).1
  have X0 : Stand p l e ({ frames := 0, cells := 0, slots := 0, locals := 0 } : Room) s m #[(.long q1), (.long q2)] below meth c s₁ [] 0 0 := Stand.of_body Bd
  have e0 : s₁.heap = h0 := by rw [← hh, Bd.state]; rfl
  have N0 := Fr.nil n0
  show Go p.tables e below s (Q7 Z q1 q2 h0 n0) ({ frames := 0, cells := 0, slots := 0, locals := 0 } : Room).cells ({ frames := 0, cells := 0, slots := 0, locals := 0 } : Room).slots (s₁.setTop (entryFrame m #[(.long q1), (.long q2)] 4))
  refine Go.on (fun t k => castTop (ef_7 m q1 q2) k) ?_
  show Go p.tables e below s _ _ _ (s₁.setTop (mkF m 0 #[.val (.long q1), .second, .val (.long q2), .second] []))
  refine Go.on (fun t k => XS.lloadN X0.here hx rfl (hb hby d7_0) rfl k) ?_
  show Go p.tables e below s _ _ _ (s₁.setTop (mkF m 1 #[.val (.long q1), .second, .val (.long q2), .second] [(.long q1)]))
  refine Go.on (fun t k => XS.lloadN X0.here hx rfl (hb hby d7_1) rfl k) ?_
  show Go p.tables e below s _ _ _ (s₁.setTop (mkF m 2 #[.val (.long q1), .second, .val (.long q2), .second] [(.long q2), (.long q1)]))
  refine Go.on (fun t k => XS.lcmp X0.here hx rfl (hb hby d7_2) rfl k) ?_
  show Go p.tables e below s _ _ _ (s₁.setTop (mkF m 3 #[.val (.long q1), .second, .val (.long q2), .second] [(.int (lcmpW q1 q2))]))
  by_cases hc3_1 : (lcmpW q1 q2) < (0 : Int32)
  · refine Go.on (fun t k => XS.ifYes X0.here hx rfl (pc0 := 3) (pc' := 10) rfl (hb hby d7_3) rfl ((if0 _ _).trans (tlt hc3_1).1) (by decide) (by decide) k) ?_
    show Go p.tables e below s _ _ _ (s₁.setTop (mkF m 10 #[.val (.long q1), .second, .val (.long q2), .second] []))
    refine Go.on (fun t k => XS.lloadN X0.here hx rfl (hb hby d7_10) rfl k) ?_
    show Go p.tables e below s _ _ _ (s₁.setTop (mkF m 11 #[.val (.long q1), .second, .val (.long q2), .second] [(.long q2)]))
    refine Go.retJ X0 hx hlk Bd.returns (hb hby d7_11) (by decide) (by decide) e0 ?_
    exact ⟨(by rw [own_maxL, if_pos]; exact (lw_lt _ _).mp hc3_1), N0, rfl⟩
  · refine Go.on (fun t k => XS.ifNo X0.here hx rfl (hb hby d7_3) rfl ((if0 _ _).trans (flt hc3_1).1) k) ?_
    show Go p.tables e below s _ _ _ (s₁.setTop (mkF m 6 #[.val (.long q1), .second, .val (.long q2), .second] []))
    refine Go.on (fun t k => XS.lloadN X0.here hx rfl (hb hby d7_6) rfl k) ?_
    show Go p.tables e below s _ _ _ (s₁.setTop (mkF m 7 #[.val (.long q1), .second, .val (.long q2), .second] [(.long q1)]))
    refine Go.on (fun t k => XS.goto X0.here hx rfl (pc0 := 7) (pc' := 11) rfl (hb hby d7_7) (by decide) (by decide) k) ?_
    show Go p.tables e below s _ _ _ (s₁.setTop (mkF m 11 #[.val (.long q1), .second, .val (.long q2), .second] [(.long q1)]))
    refine Go.retJ X0 hx hlk Bd.returns (hb hby d7_11) (by decide) (by decide) e0 ?_
    exact ⟨(by rw [own_maxL, if_neg]; exact fun q => hc3_1 ((lw_lt _ _).mpr q)), N0, rfl⟩
theorem d8_0 : decode jdk_29_method_70_code 0 = .ok (.lload_n 0, 1) := by decide +kernel
theorem d8_1 : decode jdk_29_method_70_code 1 = .ok (.lload_n 2, 1) := by decide +kernel
theorem d8_2 : decode jdk_29_method_70_code 2 = .ok (.lcmp, 1) := by decide +kernel
theorem d8_3 : decode jdk_29_method_70_code 3 = .ok (.ifCond .gt 7, 3) := by decide +kernel
theorem d8_6 : decode jdk_29_method_70_code 6 = .ok (.lload_n 0, 1) := by decide +kernel
theorem d8_7 : decode jdk_29_method_70_code 7 = .ok (.goto 4, 3) := by decide +kernel
theorem d8_10 : decode jdk_29_method_70_code 10 = .ok (.lload_n 2, 1) := by decide +kernel
theorem d8_11 : decode jdk_29_method_70_code 11 = .ok (.lreturn, 1) := by decide +kernel
theorem ef_8 (m : MethodId) (x0 : Int64) (x1 : Int64) : entryFrame m #[(.long x0), (.long x1)] 4 = mkF m 0 #[.val (.long x0), .second, .val (.long x1), .second] [] := by first | (simp [entryFrame, mkF, argsToLocals, Value.category]; done) | rfl
def Q8 (Z : State) (q1 : Int64) (q2 : Int64) (h0 : Heap) (n0 : Nat) (v : Option Value) (h : Heap) (L : List Loc) : Prop := v = some (.long (own_minL q1 q2)) ∧ Fr n0 L ∧ h = h0
set_option maxRecDepth 65536 in
set_option maxHeartbeats 40000000 in
theorem rm8 (l : Launch) (Z : State) (a0 : Array Value) (hw : ∀ d ∈ tables_1, d.before a0 Z = true) (ws : List Jvm.Cond) (q1 : Int64) (q2 : Int64) (h0 : Heap) (n0 : Nat) (Z0 : n0 ≤ h0.size)  :
    MetFree l (⟨"java/lang/Math", "min", "(JJ)J"⟩ : MethodName) (head1 (Jvm.Cond.code (⟨"java/lang/Math", "min", "(JJ)J"⟩ : MethodName) jdk_29_method_70_code 4 (some .long) :: ws) ({ frames := 0, cells := 0, slots := 0, locals := 0 } : Room)) (fun a U => a = #[(.long q1), (.long q2)] ∧ Z.Warmed39 U.vm ∧ U.heap = h0) (fun _ _ _ _ _ => True) (fun _ U o U' => ∃ v L, o = .returned v ∧ Q8 Z q1 q2 h0 n0 v U'.heap L ∧ FrameEnd U o U' L ({ frames := 0, cells := 0, slots := 0, locals := 0 } : Room).cells ({ frames := 0, cells := 0, slots := 0, locals := 0 } : Room).slots) := by
  refine MetFree.of_bodySF (Jvm.Free.JP.mathPlain rfl (by decide +kernel)) hisR ?_
  intro p e s m args below meth c s₁ Bd hml0 hP hK
  obtain ⟨rfl, hZ, hh⟩ := hP
  have hx := Bd.exec
  have hby := Bd.bytes
  have hlk : meth.locks = false := BodyLoose.notSynchronized Bd
  have hml : c.maxLocals = 4 := hml0
  have hown : s.vm.findClass "java/lang/Math" = some m.cls := findClass_of_methodNamed Bd.named
  have hnm := (name_of_methodNamed Bd.named Bd.method).1
  have X0 : Stand p l e ({ frames := 0, cells := 0, slots := 0, locals := 0 } : Room) s m #[(.long q1), (.long q2)] below meth c s₁ [] 0 0 := Stand.of_body Bd
  have e0 : s₁.heap = h0 := by rw [← hh, Bd.state]; rfl
  have N0 := Fr.nil n0
  show Go p.tables e below s (Q8 Z q1 q2 h0 n0) ({ frames := 0, cells := 0, slots := 0, locals := 0 } : Room).cells ({ frames := 0, cells := 0, slots := 0, locals := 0 } : Room).slots (s₁.setTop (entryFrame m #[(.long q1), (.long q2)] 4))
  refine Go.on (fun t k => castTop (ef_8 m q1 q2) k) ?_
  show Go p.tables e below s _ _ _ (s₁.setTop (mkF m 0 #[.val (.long q1), .second, .val (.long q2), .second] []))
  refine Go.on (fun t k => XS.lloadN X0.here hx rfl (hb hby d8_0) rfl k) ?_
  show Go p.tables e below s _ _ _ (s₁.setTop (mkF m 1 #[.val (.long q1), .second, .val (.long q2), .second] [(.long q1)]))
  refine Go.on (fun t k => XS.lloadN X0.here hx rfl (hb hby d8_1) rfl k) ?_
  show Go p.tables e below s _ _ _ (s₁.setTop (mkF m 2 #[.val (.long q1), .second, .val (.long q2), .second] [(.long q2), (.long q1)]))
  refine Go.on (fun t k => XS.lcmp X0.here hx rfl (hb hby d8_2) rfl k) ?_
  show Go p.tables e below s _ _ _ (s₁.setTop (mkF m 3 #[.val (.long q1), .second, .val (.long q2), .second] [(.int (lcmpW q1 q2))]))
  by_cases hc3_1 : (0 : Int32) < (lcmpW q1 q2)
  · refine Go.on (fun t k => XS.ifYes X0.here hx rfl (pc0 := 3) (pc' := 10) rfl (hb hby d8_3) rfl ((if0 _ _).trans (tlt hc3_1).2.2.1) (by decide) (by decide) k) ?_
    show Go p.tables e below s _ _ _ (s₁.setTop (mkF m 10 #[.val (.long q1), .second, .val (.long q2), .second] []))
    refine Go.on (fun t k => XS.lloadN X0.here hx rfl (hb hby d8_10) rfl k) ?_
    show Go p.tables e below s _ _ _ (s₁.setTop (mkF m 11 #[.val (.long q1), .second, .val (.long q2), .second] [(.long q2)]))
    refine Go.retJ X0 hx hlk Bd.returns (hb hby d8_11) (by decide) (by decide) e0 ?_
    exact ⟨(by rw [own_minL, if_pos]; exact (lw_gt _ _).mp hc3_1), N0, rfl⟩
  · refine Go.on (fun t k => XS.ifNo X0.here hx rfl (hb hby d8_3) rfl ((if0 _ _).trans (flt hc3_1).2.2.1) k) ?_
    show Go p.tables e below s _ _ _ (s₁.setTop (mkF m 6 #[.val (.long q1), .second, .val (.long q2), .second] []))
    refine Go.on (fun t k => XS.lloadN X0.here hx rfl (hb hby d8_6) rfl k) ?_
    show Go p.tables e below s _ _ _ (s₁.setTop (mkF m 7 #[.val (.long q1), .second, .val (.long q2), .second] [(.long q1)]))
    refine Go.on (fun t k => XS.goto X0.here hx rfl (pc0 := 7) (pc' := 11) rfl (hb hby d8_7) (by decide) (by decide) k) ?_
    show Go p.tables e below s _ _ _ (s₁.setTop (mkF m 11 #[.val (.long q1), .second, .val (.long q2), .second] [(.long q1)]))
    refine Go.retJ X0 hx hlk Bd.returns (hb hby d8_11) (by decide) (by decide) e0 ?_
    exact ⟨(by rw [own_minL, if_neg]; exact fun q => hc3_1 ((lw_gt _ _).mpr q)), N0, rfl⟩
theorem d6_0 : decode prog_15_method_2_code 0 = .ok (.aload_n 0, 1) := by decide +kernel
theorem d6_1 : decode prog_15_method_2_code 1 = .ok (.getfield 15, 3) := by decide +kernel
theorem d6_4 : decode prog_15_method_2_code 4 = .ok (.lload_n 1, 1) := by decide +kernel
theorem d6_5 : decode prog_15_method_2_code 5 = .ok (.lconst 0, 1) := by decide +kernel
theorem d6_6 : decode prog_15_method_2_code 6 = .ok (.invokestatic 19, 3) := by decide +kernel
theorem d6_9 : decode prog_15_method_2_code 9 = .ok (.ldc2_w 9, 3) := by decide +kernel
theorem d6_12 : decode prog_15_method_2_code 12 = .ok (.invokestatic 25, 3) := by decide +kernel
theorem d6_15 : decode prog_15_method_2_code 15 = .ok (.invokestatic 11, 3) := by decide +kernel
theorem d6_18 : decode prog_15_method_2_code 18 = .ok (.dup2, 1) := by decide +kernel
theorem d6_19 : decode prog_15_method_2_code 19 = .ok (.laload, 1) := by decide +kernel
theorem d6_20 : decode prog_15_method_2_code 20 = .ok (.lconst 1, 1) := by decide +kernel
theorem d6_21 : decode prog_15_method_2_code 21 = .ok (.ladd, 1) := by decide +kernel
theorem d6_22 : decode prog_15_method_2_code 22 = .ok (.lastore, 1) := by decide +kernel
theorem d6_23 : decode prog_15_method_2_code 23 = .ok (.aload_n 0, 1) := by decide +kernel
theorem d6_24 : decode prog_15_method_2_code 24 = .ok (.dup, 1) := by decide +kernel
theorem d6_25 : decode prog_15_method_2_code 25 = .ok (.getfield 28, 3) := by decide +kernel
theorem d6_28 : decode prog_15_method_2_code 28 = .ok (.lconst 1, 1) := by decide +kernel
theorem d6_29 : decode prog_15_method_2_code 29 = .ok (.ladd, 1) := by decide +kernel
theorem d6_30 : decode prog_15_method_2_code 30 = .ok (.putfield 28, 3) := by decide +kernel
theorem d6_33 : decode prog_15_method_2_code 33 = .ok (.return_, 1) := by decide +kernel
theorem ef_6 (m : MethodId) (x0 : Addr) (x1 : Int64) : entryFrame m #[(.ref x0), (.long x1)] 3 = mkF m 0 #[.val (.ref x0), .val (.long x1), .second] [] := by first | (simp [entryFrame, mkF, argsToLocals, Value.category]; done) | rfl
def Q6 (Z : State) (a1 : Addr) (q2 : Int64) (cc : Addr) (n : Int64) (f : Nat → Int64) (h0 : Heap) (n0 : Nat) (v : Option Value) (h : Heap) (L : List Loc) : Prop := v = none ∧ Fr n0 L ∧ Keep h0 h [a1, cc] ∧ Fld Z h a1 "com/example/loomport/loomport/loadgen/Latencies" "counts" "[J" (.ref cc) ∧ Fld Z h a1 "com/example/loomport/loomport/loadgen/Latencies" "count" "J" (.long (n + (1 : Int64))) ∧ Cnt Z h cc (own_inc f (own_bk (own_u q2)))
set_option maxRecDepth 65536 in
set_option maxHeartbeats 40000000 in
theorem rm6 (l : Launch) (Z : State) (a0 : Array Value) (hw : ∀ d ∈ tables_1, d.before a0 Z = true) (ws : List Jvm.Cond) (a1 : Addr) (q2 : Int64) (cc : Addr) (n : Int64) (f : Nat → Int64) (h0 : Heap) (n0 : Nat) (Z0 : n0 ≤ h0.size) (E_a1 : Exa Z h0 a1 "com/example/loomport/loomport/loadgen/Latencies") (ge_a1 : n0 ≤ a1) (ge_cc : n0 ≤ cc) (ne_a1_cc : a1 ≠ cc) (F_counts_a1 : Fld Z h0 a1 "com/example/loomport/loomport/loadgen/Latencies" "counts" "[J" (.ref cc)) (F_count_a1 : Fld Z h0 a1 "com/example/loomport/loomport/loadgen/Latencies" "count" "J" (.long n)) (C_cc : Cnt Z h0 cc f) :
    MetFree l (⟨"com/example/loomport/loomport/loadgen/Latencies", "add", "(J)V"⟩ : MethodName) (head1 (Jvm.Cond.code (⟨"com/example/loomport/loomport/loadgen/Latencies", "add", "(J)V"⟩ : MethodName) prog_15_method_2_code 3 none :: ws) ({ frames := 3, cells := 0, slots := 0, locals := 44 } : Room)) (fun a U => a = #[(.ref a1), (.long q2)] ∧ Z.Warmed39 U.vm ∧ U.heap = h0) (fun _ _ _ _ _ => True) (fun _ U o U' => ∃ v L, o = .returned v ∧ Q6 Z a1 q2 cc n f h0 n0 v U'.heap L ∧ FrameEnd U o U' L ({ frames := 3, cells := 0, slots := 0, locals := 44 } : Room).cells ({ frames := 3, cells := 0, slots := 0, locals := 44 } : Room).slots) := by
  refine MetFree.of_bodySF (plainFor_of_name pn_com_example_loomport_loomport_loadgen_Latencies) hisR ?_
  intro p e s m args below meth c s₁ Bd hml0 hP hK
  obtain ⟨rfl, hZ, hh⟩ := hP
  have hx := Bd.exec
  have hby := Bd.bytes
  have hlk : meth.locks = false := BodyLoose.notSynchronized Bd
  have hml : c.maxLocals = 3 := hml0
  have hown : s.vm.findClass "com/example/loomport/loomport/loadgen/Latencies" = some m.cls := findClass_of_methodNamed Bd.named
  have hnm := (name_of_methodNamed Bd.named Bd.method).1
  have X0 : Stand p l e ({ frames := 3, cells := 0, slots := 0, locals := 44 } : Room) s m #[(.ref a1), (.long q2)] below meth c s₁ [] 0 0 := Stand.of_body Bd
  have e0 : s₁.heap = h0 := by rw [← hh, Bd.state]; rfl
  have N0 := Fr.nil n0
  show Go p.tables e below s (Q6 Z a1 q2 cc n f h0 n0) ({ frames := 3, cells := 0, slots := 0, locals := 44 } : Room).cells ({ frames := 3, cells := 0, slots := 0, locals := 44 } : Room).slots (s₁.setTop (entryFrame m #[(.ref a1), (.long q2)] 3))
  refine Go.on (fun t k => castTop (ef_6 m a1 q2) k) ?_
  show Go p.tables e below s _ _ _ (s₁.setTop (mkF m 0 #[.val (.ref a1), .val (.long q2), .second] []))
  refine Go.on (fun t k => XS.aloadN X0.here hx rfl (hb hby d6_0) rfl rfl k) ?_
  show Go p.tables e below s _ _ _ (s₁.setTop (mkF m 1 #[.val (.ref a1), .val (.long q2), .second] [(.ref a1)]))
  obtain ⟨T1, X1, e1, st1⟩ := getF X0 hx hZ hown (host := "") (Or.inl (hw _ (List.mem_of_getElem? (i := 24) rfl))) Via.refl e0 F_counts_a1 (g := (mkF m 1 #[.val (.ref a1), .val (.long q2), .second] [(.ref a1)])) rfl rfl (hb hby d6_1)
  refine Go.on st1 ?_
  show Go p.tables e below s _ _ _ (T1.setTop (mkF m 4 #[.val (.ref a1), .val (.long q2), .second] [(.ref cc)]))
  refine Go.on (fun t k => XS.lloadN X1.here hx rfl (hb hby d6_4) rfl k) ?_
  show Go p.tables e below s _ _ _ (T1.setTop (mkF m 5 #[.val (.ref a1), .val (.long q2), .second] [(.long q2), (.ref cc)]))
  refine Go.on (fun t k => XS.lconst X1.here hx rfl (hb hby d6_5) k) ?_
  show Go p.tables e below s _ _ _ (T1.setTop (mkF m 6 #[.val (.ref a1), .val (.long q2), .second] [(.long (0 : Int64)), (.long q2), (.ref cc)]))
  obtain ⟨_, _, ⟨T2, L2, k2, n2⟩, -, X2, ⟨Lc2, hQ2, l2, y2, z2⟩, st2⟩ := Jvm.LawKit.callS X1 hx (y := (⟨"java/lang/Math", "max", "(JJ)J"⟩ : MethodName)) hown (mvT hZ (hw _ (List.mem_of_getElem? (i := 31) rfl))) (mvT hZ (hw _ (List.mem_of_getElem? (i := 32) rfl))) (mvT hZ (hw _ (List.mem_of_getElem? (i := 33) rfl))) (mvT hZ (hw _ (List.mem_of_getElem? (i := 34) rfl))) (by decide) (backOf (W := 1) (rm7 l Z a0 hw [] q2 (0 : Int64) h0 n0 Z0 ) hZ (hw _ (List.mem_of_getElem? (i := 34) rfl)) (hw _ (List.mem_of_getElem? (i := 33) rfl)) (by decide) (by decide)) (g := (mkF m 6 #[.val (.ref a1), .val (.long q2), .second] [(.long (0 : Int64)), (.long q2), (.ref cc)])) rfl (by rw [hml]; rfl) (argsL := [(.long q2), (.long (0 : Int64))]) (rest := [(.ref cc)]) (lenOf pd__40_JJ_41_J rfl) rfl (by show 2 * 0 + _ ≤ _; exact Nat.le_of_eq rfl) (hb hby d6_6) (fun _ _ => ⟨rfl, e1, (by decide : 0 + 0 ≤ _), (by decide : 0 + 0 ≤ _)⟩)
  dsimp only [Pt.U, Pt.locs, Pt.cells, Pt.slots] at X2 l2 y2 z2 st2 hQ2
  subst l2 y2 z2
  obtain ⟨rfl, Nq2, e2⟩ := hQ2
  have Np3 := Fr.app N0 Nq2
  refine Go.on st2 ?_
  show Go p.tables e below s _ _ _ (T2.setTop (mkF m 9 #[.val (.ref a1), .val (.long q2), .second] [(.long (own_maxL q2 (0 : Int64))), (.ref cc)]))
  refine Go.on (fun t k => X2.ldc2Long hx hown (mvT hZ (hw _ (List.mem_of_getElem? (i := 10) rfl))) (g := (mkF m 9 #[.val (.ref a1), .val (.long q2), .second] [(.long (own_maxL q2 (0 : Int64))), (.ref cc)])) rfl (hb hby d6_9) t k) ?_
  show Go p.tables e below s _ _ _ (T2.setTop (mkF m 12 #[.val (.ref a1), .val (.long q2), .second] [(.long (4294967295 : Int64)), (.long (own_maxL q2 (0 : Int64))), (.ref cc)]))
  obtain ⟨_, _, ⟨T4, L4, k4, n4⟩, -, X4, ⟨Lc4, hQ4, l4, y4, z4⟩, st4⟩ := Jvm.LawKit.callS X2 hx (y := (⟨"java/lang/Math", "min", "(JJ)J"⟩ : MethodName)) hown (mvT hZ (hw _ (List.mem_of_getElem? (i := 35) rfl))) (mvT hZ (hw _ (List.mem_of_getElem? (i := 36) rfl))) (mvT hZ (hw _ (List.mem_of_getElem? (i := 33) rfl))) (mvT hZ (hw _ (List.mem_of_getElem? (i := 37) rfl))) (by decide) (backOf (W := 1) (rm8 l Z a0 hw [] (own_maxL q2 (0 : Int64)) (4294967295 : Int64) h0 n0 Z0 ) hZ (hw _ (List.mem_of_getElem? (i := 37) rfl)) (hw _ (List.mem_of_getElem? (i := 33) rfl)) (by decide) (by decide)) (g := (mkF m 12 #[.val (.ref a1), .val (.long q2), .second] [(.long (4294967295 : Int64)), (.long (own_maxL q2 (0 : Int64))), (.ref cc)])) rfl (by rw [hml]; rfl) (argsL := [(.long (own_maxL q2 (0 : Int64))), (.long (4294967295 : Int64))]) (rest := [(.ref cc)]) (lenOf pd__40_JJ_41_J rfl) rfl (by show 2 * 0 + _ ≤ _; exact Nat.le_of_eq rfl) (hb hby d6_12) (fun _ _ => ⟨rfl, e2, (by decide : (0 + 0) + 0 ≤ _), (by decide : (0 + 0) + 0 ≤ _)⟩)
  dsimp only [Pt.U, Pt.locs, Pt.cells, Pt.slots] at X4 l4 y4 z4 st4 hQ4
  subst l4 y4 z4
  obtain ⟨rfl, Nq4, e4⟩ := hQ4
  have Np5 := Fr.app Np3 Nq4
  refine Go.on st4 ?_
  show Go p.tables e below s _ _ _ (T4.setTop (mkF m 15 #[.val (.ref a1), .val (.long q2), .second] [(.long (own_minL (own_maxL q2 (0 : Int64)) (4294967295 : Int64))), (.ref cc)]))
  rw [show own_minL (own_maxL q2 (0 : Int64)) (4294967295 : Int64) = Int64.ofNat (own_u q2) from own_u_eq q2]
  show Go p.tables e below s _ _ _ (T4.setTop (mkF m 15 #[.val (.ref a1), .val (.long q2), .second] [(.long (Int64.ofNat (own_u q2))), (.ref cc)]))
  obtain ⟨_, _, ⟨T6, L6, k6, n6⟩, -, X6, ⟨Lc6, hQ6, l6, y6, z6⟩, st6⟩ := Jvm.LawKit.callS X4 hx (y := (⟨"com/example/loomport/loomport/loadgen/Latencies", "bucket", "(J)I"⟩ : MethodName)) hown (mvT hZ (hw _ (List.mem_of_getElem? (i := 11) rfl))) (mvT hZ (hw _ (List.mem_of_getElem? (i := 12) rfl))) (mvT hZ (hw _ (List.mem_of_getElem? (i := 3) rfl))) (mvT hZ (hw _ (List.mem_of_getElem? (i := 13) rfl))) (by decide) (backOf (W := 1) (rm3 l Z a0 hw [] (Int64.ofNat (own_u q2)) (own_u q2) h0 n0 Z0 rfl (own_u_lt q2)) hZ (hw _ (List.mem_of_getElem? (i := 13) rfl)) (hw _ (List.mem_of_getElem? (i := 3) rfl)) (by decide) (by decide)) (g := (mkF m 15 #[.val (.ref a1), .val (.long q2), .second] [(.long (Int64.ofNat (own_u q2))), (.ref cc)])) rfl (by rw [hml]; rfl) (argsL := [(.long (Int64.ofNat (own_u q2)))]) (rest := [(.ref cc)]) (lenOf pd__40_J_41_I rfl) rfl (by show 2 * 0 + _ ≤ _; exact Nat.le_of_eq rfl) (hb hby d6_15) (fun _ _ => ⟨rfl, e4, (by decide : ((0 + 0) + 0) + 0 ≤ _), (by decide : ((0 + 0) + 0) + 0 ≤ _)⟩)
  dsimp only [Pt.U, Pt.locs, Pt.cells, Pt.slots] at X6 l6 y6 z6 st6 hQ6
  subst l6 y6 z6
  obtain ⟨rfl, Nq6, e6⟩ := hQ6
  have Np7 := Fr.app Np5 Nq6
  refine Go.on st6 ?_
  show Go p.tables e below s _ _ _ (T6.setTop (mkF m 18 #[.val (.ref a1), .val (.long q2), .second] [(.int (Int32.ofNat (own_bk (own_u q2)))), (.ref cc)]))
  refine Go.on (fun t k => Jvm.Free.XT.dup2 X6.here hx rfl (hb hby d6_18) rfl rfl rfl k) ?_
  show Go p.tables e below s _ _ _ (T6.setTop (mkF m 19 #[.val (.ref a1), .val (.long q2), .second] [(.int (Int32.ofNat (own_bk (own_u q2)))), (.ref cc), (.int (Int32.ofNat (own_bk (own_u q2)))), (.ref cc)]))
  obtain ⟨cl8, Ar8, S8, H8⟩ := id C_cc
  have hin8 := own_cin S8 ((own_bk_lt (own_u_lt q2)) : (own_bk (own_u q2)) < 45056)
  have hat8 := own_cat H8 ((own_bk_lt (own_u_lt q2)) : (own_bk (own_u q2)) < 45056)
  refine Go.on (fun t k => X6.laload hx (j := (Int32.ofNat (own_bk (own_u q2)))) (v := (.long (f (own_bk (own_u q2))))) (by rw [e6]; exact Ar8.1) (State.isArrayOf_alike hZ.alike Ar8.2.1) Ar8.2.2 hin8 hat8 (g := (mkF m 19 #[.val (.ref a1), .val (.long q2), .second] [(.int (Int32.ofNat (own_bk (own_u q2)))), (.ref cc), (.int (Int32.ofNat (own_bk (own_u q2)))), (.ref cc)])) rfl rfl (hb hby d6_19) t k) ?_
  show Go p.tables e below s _ _ _ (T6.setTop (mkF m 20 #[.val (.ref a1), .val (.long q2), .second] [(.long (f (own_bk (own_u q2)))), (.int (Int32.ofNat (own_bk (own_u q2)))), (.ref cc)]))
  refine Go.on (fun t k => XS.lconst X6.here hx rfl (hb hby d6_20) k) ?_
  show Go p.tables e below s _ _ _ (T6.setTop (mkF m 21 #[.val (.ref a1), .val (.long q2), .second] [(.long (1 : Int64)), (.long (f (own_bk (own_u q2)))), (.int (Int32.ofNat (own_bk (own_u q2)))), (.ref cc)]))
  refine Go.on (fun t k => XS.ladd X6.here hx rfl (hb hby d6_21) rfl k) ?_
  show Go p.tables e below s _ _ _ (T6.setTop (mkF m 22 #[.val (.ref a1), .val (.long q2), .second] [(.long ((f (own_bk (own_u q2))) + (1 : Int64))), (.int (Int32.ofNat (own_bk (own_u q2)))), (.ref cc)]))
  obtain ⟨cl9, Ar9, S9, H9⟩ := id C_cc
  have hin9 := own_cin S9 ((own_bk_lt (own_u_lt q2)) : (own_bk (own_u q2)) < 45056)
  obtain ⟨T9, h9, X9, e9, W9, st9⟩ := stJ X6 hx hZ e6 Ar9 (j := (Int32.ofNat (own_bk (own_u q2)))) hin9 (g := (mkF m 22 #[.val (.ref a1), .val (.long q2), .second] [(.long ((f (own_bk (own_u q2))) + (1 : Int64))), (.int (Int32.ofNat (own_bk (own_u q2)))), (.ref cc)])) rfl rfl (hb hby d6_22)
  have Ccc_10 : Cnt Z h9 cc (own_inc f (own_bk (own_u q2))) := own_incF rfl (Cnt.set Ar9 S9 H9 W9 ((own_bk_lt (own_u_lt q2)) : (own_bk (own_u q2)) < 45056))
  have E_a1_11 := E_a1.wr W9
  have F_counts_a1_12 := F_counts_a1.other W9 (Or.inl ne_a1_cc)
  have F_count_a1_13 := F_count_a1.other W9 (Or.inl ne_a1_cc)
  have Zp14 := Nat.le_trans Z0 (Keep.of_wr W9).1
  have Kp15 := (Keep.refl h0 [a1, cc]).wr W9 (Or.inl (List.mem_of_getElem? (i := 1) rfl))
  have Np16 := Fr.snoc X9 Np7 ge_cc
  refine Go.on st9 ?_
  show Go p.tables e below s _ _ _ (T9.setTop (mkF m 23 #[.val (.ref a1), .val (.long q2), .second] []))
  refine Go.on (fun t k => XS.aloadN X9.here hx rfl (hb hby d6_23) rfl rfl k) ?_
  show Go p.tables e below s _ _ _ (T9.setTop (mkF m 24 #[.val (.ref a1), .val (.long q2), .second] [(.ref a1)]))
  refine Go.on (fun t k => XS.dup X9.here hx rfl (hb hby d6_24) rfl rfl k) ?_
  show Go p.tables e below s _ _ _ (T9.setTop (mkF m 25 #[.val (.ref a1), .val (.long q2), .second] [(.ref a1), (.ref a1)]))
  obtain ⟨T17, X17, e17, st17⟩ := getF X9 hx hZ hown (host := "") (Or.inl (hw _ (List.mem_of_getElem? (i := 38) rfl))) Via.refl e9 F_count_a1_13 (g := (mkF m 25 #[.val (.ref a1), .val (.long q2), .second] [(.ref a1), (.ref a1)])) rfl rfl (hb hby d6_25)
  refine Go.on st17 ?_
  show Go p.tables e below s _ _ _ (T17.setTop (mkF m 28 #[.val (.ref a1), .val (.long q2), .second] [(.long n), (.ref a1)]))
  refine Go.on (fun t k => XS.lconst X17.here hx rfl (hb hby d6_28) k) ?_
  show Go p.tables e below s _ _ _ (T17.setTop (mkF m 29 #[.val (.ref a1), .val (.long q2), .second] [(.long (1 : Int64)), (.long n), (.ref a1)]))
  refine Go.on (fun t k => XS.ladd X17.here hx rfl (hb hby d6_29) rfl k) ?_
  show Go p.tables e below s _ _ _ (T17.setTop (mkF m 30 #[.val (.ref a1), .val (.long q2), .second] [(.long (n + (1 : Int64))), (.ref a1)]))
  obtain ⟨T18, h18, X18, e18, W18, st18⟩ := putF X17 hx hZ hown (host := "") (Or.inl (hw _ (List.mem_of_getElem? (i := 38) rfl))) Via.refl e17 F_count_a1_13 E_a1_11 (Or.inl (hw _ (List.mem_of_getElem? (i := 39) rfl))) (hw _ (List.mem_of_getElem? (i := 2) rfl)) (ty := .long) (by decide) rfl rfl (g := (mkF m 30 #[.val (.ref a1), .val (.long q2), .second] [(.long (n + (1 : Int64))), (.ref a1)])) rfl rfl (hb hby d6_30)
  have E_a1_19 := E_a1_11.wr W18
  have F_counts_a1_20 := F_counts_a1_12.other W18 (Or.inr (slot_ne (Or.inr (hw _ (List.mem_of_getElem? (i := 25) rfl))) (Or.inl (hw _ (List.mem_of_getElem? (i := 39) rfl))) (by decide) (t := (.array .long)) (t' := .long) (by decide) (by decide)))
  have F_count_a1_21 := F_count_a1_13.same W18
  have Ccc_22 := Ccc_10.other W18 (Ne.symm ne_a1_cc)
  have Zp23 := Nat.le_trans Zp14 (Keep.of_wr W18).1
  have Kp24 := Kp15.wr W18 (Or.inl (List.mem_of_getElem? (i := 0) rfl))
  have Np25 := Fr.snoc X18 Np16 ge_a1
  refine Go.on st18 ?_
  show Go p.tables e below s _ _ _ (T18.setTop (mkF m 33 #[.val (.ref a1), .val (.long q2), .second] []))
  refine Go.retV X18 hx hlk Bd.returns (hb hby d6_33) (by decide) (by decide) e18 ?_
  exact ⟨rfl, Np25, Kp24, F_counts_a1_20, F_count_a1_21, Ccc_22⟩
theorem d9_0 : decode prog_15_method_3_code 0 = .ok (.iconst 0, 1) := by decide +kernel
theorem d9_1 : decode prog_15_method_3_code 1 = .ok (.istore_n 2, 1) := by decide +kernel
theorem d9_2 : decode prog_15_method_3_code 2 = .ok (.iload_n 2, 1) := by decide +kernel
theorem d9_3 : decode prog_15_method_3_code 3 = .ok (.aload_n 0, 1) := by decide +kernel
theorem d9_4 : decode prog_15_method_3_code 4 = .ok (.getfield 15, 3) := by decide +kernel
theorem d9_7 : decode prog_15_method_3_code 7 = .ok (.arraylength, 1) := by decide +kernel
theorem d9_8 : decode prog_15_method_3_code 8 = .ok (.if_icmp .ge 24, 3) := by decide +kernel
theorem d9_11 : decode prog_15_method_3_code 11 = .ok (.aload_n 0, 1) := by decide +kernel
theorem d9_12 : decode prog_15_method_3_code 12 = .ok (.getfield 15, 3) := by decide +kernel
theorem d9_15 : decode prog_15_method_3_code 15 = .ok (.iload_n 2, 1) := by decide +kernel
theorem d9_16 : decode prog_15_method_3_code 16 = .ok (.dup2, 1) := by decide +kernel
theorem d9_17 : decode prog_15_method_3_code 17 = .ok (.laload, 1) := by decide +kernel
theorem d9_18 : decode prog_15_method_3_code 18 = .ok (.aload_n 1, 1) := by decide +kernel
theorem d9_19 : decode prog_15_method_3_code 19 = .ok (.getfield 15, 3) := by decide +kernel
theorem d9_22 : decode prog_15_method_3_code 22 = .ok (.iload_n 2, 1) := by decide +kernel
theorem d9_23 : decode prog_15_method_3_code 23 = .ok (.laload, 1) := by decide +kernel
theorem d9_24 : decode prog_15_method_3_code 24 = .ok (.ladd, 1) := by decide +kernel
theorem d9_25 : decode prog_15_method_3_code 25 = .ok (.lastore, 1) := by decide +kernel
theorem d9_26 : decode prog_15_method_3_code 26 = .ok (.iinc 2 1, 3) := by decide +kernel
theorem d9_29 : decode prog_15_method_3_code 29 = .ok (.goto (-27), 3) := by decide +kernel
theorem d9_32 : decode prog_15_method_3_code 32 = .ok (.aload_n 0, 1) := by decide +kernel
theorem d9_33 : decode prog_15_method_3_code 33 = .ok (.dup, 1) := by decide +kernel
theorem d9_34 : decode prog_15_method_3_code 34 = .ok (.getfield 28, 3) := by decide +kernel
theorem d9_37 : decode prog_15_method_3_code 37 = .ok (.aload_n 1, 1) := by decide +kernel
theorem d9_38 : decode prog_15_method_3_code 38 = .ok (.getfield 28, 3) := by decide +kernel
theorem d9_41 : decode prog_15_method_3_code 41 = .ok (.ladd, 1) := by decide +kernel
theorem d9_42 : decode prog_15_method_3_code 42 = .ok (.putfield 28, 3) := by decide +kernel
theorem d9_45 : decode prog_15_method_3_code 45 = .ok (.return_, 1) := by decide +kernel
theorem ef_9 (m : MethodId) (x0 : Addr) (x1 : Addr) : entryFrame m #[(.ref x0), (.ref x1)] 3 = mkF m 0 #[.val (.ref x0), .val (.ref x1), .unset] [] := by first | (simp [entryFrame, mkF, argsToLocals, Value.category]; done) | rfl
def Q9 (Z : State) (a1 : Addr) (a2 : Addr) (cc : Addr) (n : Int64) (f : Nat → Int64) (c2 : Addr) (n2 : Int64) (g : Nat → Int64) (h0 : Heap) (n0 : Nat) (v : Option Value) (h : Heap) (L : List Loc) : Prop := v = none ∧ Fr n0 L ∧ Keep h0 h [a1, cc] ∧ Fld Z h a1 "com/example/loomport/loomport/loadgen/Latencies" "counts" "[J" (.ref cc) ∧ Fld Z h a1 "com/example/loomport/loomport/loadgen/Latencies" "count" "J" (.long (n + n2)) ∧ Cnt Z h cc (own_both f g 45056)
set_option maxRecDepth 65536 in
set_option maxHeartbeats 40000000 in
theorem rm9 (l : Launch) (Z : State) (a0 : Array Value) (hw : ∀ d ∈ tables_1, d.before a0 Z = true) (ws : List Jvm.Cond) (a1 : Addr) (a2 : Addr) (cc : Addr) (n : Int64) (f : Nat → Int64) (c2 : Addr) (n2 : Int64) (g : Nat → Int64) (h0 : Heap) (n0 : Nat) (Z0 : n0 ≤ h0.size) (E_a1 : Exa Z h0 a1 "com/example/loomport/loomport/loadgen/Latencies") (ge_a1 : n0 ≤ a1) (ge_cc : n0 ≤ cc) (ne_a1_cc : a1 ≠ cc) (ne_a2_cc : a2 ≠ cc) (ne_c2_cc : c2 ≠ cc) (ne_a2_a1 : a2 ≠ a1) (ne_c2_a1 : c2 ≠ a1) (F_counts_a1 : Fld Z h0 a1 "com/example/loomport/loomport/loadgen/Latencies" "counts" "[J" (.ref cc)) (F_count_a1 : Fld Z h0 a1 "com/example/loomport/loomport/loadgen/Latencies" "count" "J" (.long n)) (F_counts_a2 : Fld Z h0 a2 "com/example/loomport/loomport/loadgen/Latencies" "counts" "[J" (.ref c2)) (F_count_a2 : Fld Z h0 a2 "com/example/loomport/loomport/loadgen/Latencies" "count" "J" (.long n2)) (C_cc : Cnt Z h0 cc f) (C_c2 : Cnt Z h0 c2 g) :
    MetFree l (⟨"com/example/loomport/loomport/loadgen/Latencies", "addAll", "(Lcom/example/loomport/loomport/loadgen/Latencies;)V"⟩ : MethodName) (head1 (Jvm.Cond.code (⟨"com/example/loomport/loomport/loadgen/Latencies", "addAll", "(Lcom/example/loomport/loomport/loadgen/Latencies;)V"⟩ : MethodName) prog_15_method_3_code 3 none :: ws) ({ frames := 0, cells := 0, slots := 0, locals := 0 } : Room)) (fun a U => a = #[(.ref a1), (.ref a2)] ∧ Z.Warmed39 U.vm ∧ U.heap = h0) (fun _ _ _ _ _ => True) (fun _ U o U' => ∃ v L, o = .returned v ∧ Q9 Z a1 a2 cc n f c2 n2 g h0 n0 v U'.heap L ∧ FrameEnd U o U' L ({ frames := 0, cells := 0, slots := 0, locals := 0 } : Room).cells ({ frames := 0, cells := 0, slots := 0, locals := 0 } : Room).slots) := by
  refine MetFree.of_bodySF (plainFor_of_name pn_com_example_loomport_loomport_loadgen_Latencies) hisR ?_
  intro p e s m args below meth c s₁ Bd hml0 hP hK
  obtain ⟨rfl, hZ, hh⟩ := hP
  have hx := Bd.exec
  have hby := Bd.bytes
  have hlk : meth.locks = false := BodyLoose.notSynchronized Bd
  have hml : c.maxLocals = 3 := hml0
  have hown : s.vm.findClass "com/example/loomport/loomport/loadgen/Latencies" = some m.cls := findClass_of_methodNamed Bd.named
  have hnm := (name_of_methodNamed Bd.named Bd.method).1
  have X0 : Stand p l e ({ frames := 0, cells := 0, slots := 0, locals := 0 } : Room) s m #[(.ref a1), (.ref a2)] below meth c s₁ [] 0 0 := Stand.of_body Bd
  have e0 : s₁.heap = h0 := by rw [← hh, Bd.state]; rfl
  have N0 := Fr.nil n0
  show Go p.tables e below s (Q9 Z a1 a2 cc n f c2 n2 g h0 n0) ({ frames := 0, cells := 0, slots := 0, locals := 0 } : Room).cells ({ frames := 0, cells := 0, slots := 0, locals := 0 } : Room).slots (s₁.setTop (entryFrame m #[(.ref a1), (.ref a2)] 3))
  refine Go.on (fun t k => castTop (ef_9 m a1 a2) k) ?_
  show Go p.tables e below s _ _ _ (s₁.setTop (mkF m 0 #[.val (.ref a1), .val (.ref a2), .unset] []))
  have loop : ∀ (k i : Nat) (TL : State) (hL : Heap) (locs : List Loc) (XL : Stand p l e ({ frames := 0, cells := 0, slots := 0, locals := 0 } : Room) s m #[(.ref a1), (.ref a2)] below meth c TL locs 0 0) (eL : TL.heap = hL) (NL : Fr n0 locs) (ZL : n0 ≤ hL.size) (KL : Keep h0 hL [a1, cc]) (Ea : Exa Z hL a1 "com/example/loomport/loomport/loadgen/Latencies") (Fa : Fld Z hL a1 "com/example/loomport/loomport/loadgen/Latencies" "counts" "[J" (.ref cc)) (Ga : Fld Z hL a1 "com/example/loomport/loomport/loadgen/Latencies" "count" "J" (.long n)) (Fb : Fld Z hL a2 "com/example/loomport/loomport/loadgen/Latencies" "counts" "[J" (.ref c2)) (Gb : Fld Z hL a2 "com/example/loomport/loomport/loadgen/Latencies" "count" "J" (.long n2)) (Ca : Cnt Z hL cc (own_both f g i)) (Cb : Cnt Z hL c2 g), i + k = 45056 → Go p.tables e below s (Q9 Z a1 a2 cc n f c2 n2 g h0 n0) ({ frames := 0, cells := 0, slots := 0, locals := 0 } : Room).cells ({ frames := 0, cells := 0, slots := 0, locals := 0 } : Room).slots (TL.setTop (mkF m 2 #[.val (.ref a1), .val (.ref a2), .val (.int (Int32.ofNat i))] [])) := by
    intro k
    induction k with
    | zero =>
      intro i TL hL locs XL eL NL ZL KL Ea Fa Ga Fb Gb Ca Cb hk
      refine Go.on (fun t k => XS.iloadN XL.here hx rfl (hb hby d9_2) rfl k) ?_
      show Go p.tables e below s _ _ _ (TL.setTop (mkF m 3 #[.val (.ref a1), .val (.ref a2), .val (.int (Int32.ofNat i))] [(.int (Int32.ofNat i))]))
      refine Go.on (fun t k => XS.aloadN XL.here hx rfl (hb hby d9_3) rfl rfl k) ?_
      show Go p.tables e below s _ _ _ (TL.setTop (mkF m 4 #[.val (.ref a1), .val (.ref a2), .val (.int (Int32.ofNat i))] [(.ref a1), (.int (Int32.ofNat i))]))
      obtain ⟨T1, X1, e1, st1⟩ := getF XL hx hZ hown (host := "") (Or.inl (hw _ (List.mem_of_getElem? (i := 24) rfl))) Via.refl eL Fa (g := (mkF m 4 #[.val (.ref a1), .val (.ref a2), .val (.int (Int32.ofNat i))] [(.ref a1), (.int (Int32.ofNat i))])) rfl rfl (hb hby d9_4)
      refine Go.on st1 ?_
      show Go p.tables e below s _ _ _ (T1.setTop (mkF m 7 #[.val (.ref a1), .val (.ref a2), .val (.int (Int32.ofNat i))] [(.ref cc), (.int (Int32.ofNat i))]))
      obtain ⟨cl2, Ar2, S2, H2⟩ := id Ca
      refine Go.on (fun t k => X1.arraylength hx (by rw [e1]; exact Ar2.1) (State.isArrayOf_alike hZ.alike Ar2.2.1) (g := (mkF m 7 #[.val (.ref a1), .val (.ref a2), .val (.int (Int32.ofNat i))] [(.ref cc), (.int (Int32.ofNat i))])) rfl rfl (hb hby d9_7) t k) ?_
      rw [own_csz S2]
      show Go p.tables e below s _ _ _ (T1.setTop (mkF m 8 #[.val (.ref a1), .val (.ref a2), .val (.int (Int32.ofNat i))] [(.int (45056 : Int32)), (.int (Int32.ofNat i))]))
      obtain rfl : i = 45056 := by omega
      refine Go.on (fun t k => XS.icmpYes X1.here hx rfl (pc0 := 8) (pc' := 32) rfl (hb hby d9_8) rfl (flt (by decide : ¬ (Int32.ofNat 45056 < (45056 : Int32)))).2.1 (by decide) (by decide) k) ?_
      show Go p.tables e below s _ _ _ (T1.setTop (mkF m 32 #[.val (.ref a1), .val (.ref a2), .val (.int (Int32.ofNat 45056))] []))
      refine Go.on (fun t k => XS.aloadN X1.here hx rfl (hb hby d9_32) rfl rfl k) ?_
      show Go p.tables e below s _ _ _ (T1.setTop (mkF m 33 #[.val (.ref a1), .val (.ref a2), .val (.int (Int32.ofNat 45056))] [(.ref a1)]))
      refine Go.on (fun t k => XS.dup X1.here hx rfl (hb hby d9_33) rfl rfl k) ?_
      show Go p.tables e below s _ _ _ (T1.setTop (mkF m 34 #[.val (.ref a1), .val (.ref a2), .val (.int (Int32.ofNat 45056))] [(.ref a1), (.ref a1)]))
      obtain ⟨T3, X3, e3, st3⟩ := getF X1 hx hZ hown (host := "") (Or.inl (hw _ (List.mem_of_getElem? (i := 38) rfl))) Via.refl e1 Ga (g := (mkF m 34 #[.val (.ref a1), .val (.ref a2), .val (.int (Int32.ofNat 45056))] [(.ref a1), (.ref a1)])) rfl rfl (hb hby d9_34)
      refine Go.on st3 ?_
      show Go p.tables e below s _ _ _ (T3.setTop (mkF m 37 #[.val (.ref a1), .val (.ref a2), .val (.int (Int32.ofNat 45056))] [(.long n), (.ref a1)]))
      refine Go.on (fun t k => XS.aloadN X3.here hx rfl (hb hby d9_37) rfl rfl k) ?_
      show Go p.tables e below s _ _ _ (T3.setTop (mkF m 38 #[.val (.ref a1), .val (.ref a2), .val (.int (Int32.ofNat 45056))] [(.ref a2), (.long n), (.ref a1)]))
      obtain ⟨T4, X4, e4, st4⟩ := getF X3 hx hZ hown (host := "") (Or.inl (hw _ (List.mem_of_getElem? (i := 38) rfl))) Via.refl e3 Gb (g := (mkF m 38 #[.val (.ref a1), .val (.ref a2), .val (.int (Int32.ofNat 45056))] [(.ref a2), (.long n), (.ref a1)])) rfl rfl (hb hby d9_38)
      refine Go.on st4 ?_
      show Go p.tables e below s _ _ _ (T4.setTop (mkF m 41 #[.val (.ref a1), .val (.ref a2), .val (.int (Int32.ofNat 45056))] [(.long n2), (.long n), (.ref a1)]))
      refine Go.on (fun t k => XS.ladd X4.here hx rfl (hb hby d9_41) rfl k) ?_
      show Go p.tables e below s _ _ _ (T4.setTop (mkF m 42 #[.val (.ref a1), .val (.ref a2), .val (.int (Int32.ofNat 45056))] [(.long (n + n2)), (.ref a1)]))
      obtain ⟨T5, h5, X5, e5, W5, st5⟩ := putF X4 hx hZ hown (host := "") (Or.inl (hw _ (List.mem_of_getElem? (i := 38) rfl))) Via.refl e4 Ga Ea (Or.inl (hw _ (List.mem_of_getElem? (i := 39) rfl))) (hw _ (List.mem_of_getElem? (i := 2) rfl)) (ty := .long) (by decide) rfl rfl (g := (mkF m 42 #[.val (.ref a1), .val (.ref a2), .val (.int (Int32.ofNat 45056))] [(.long (n + n2)), (.ref a1)])) rfl rfl (hb hby d9_42)
      have Ea_6 := Ea.wr W5
      have Fa_7 := Fa.other W5 (Or.inr (slot_ne (Or.inr (hw _ (List.mem_of_getElem? (i := 25) rfl))) (Or.inl (hw _ (List.mem_of_getElem? (i := 39) rfl))) (by decide) (t := (.array .long)) (t' := .long) (by decide) (by decide)))
      have Ga_8 := Ga.same W5
      have Fb_9 := Fb.other W5 (Or.inl ne_a2_a1)
      have Gb_10 := Gb.other W5 (Or.inl ne_a2_a1)
      have Ca_11 := Ca.other W5 (Ne.symm ne_a1_cc)
      have Cb_12 := Cb.other W5 ne_c2_a1
      have Zp13 := Nat.le_trans ZL (Keep.of_wr W5).1
      have Kp14 := KL.wr W5 (Or.inl (List.mem_of_getElem? (i := 0) rfl))
      have Np15 := Fr.snoc X5 NL ge_a1
      refine Go.on st5 ?_
      show Go p.tables e below s _ _ _ (T5.setTop (mkF m 45 #[.val (.ref a1), .val (.ref a2), .val (.int (Int32.ofNat 45056))] []))
      refine Go.retV X5 hx hlk Bd.returns (hb hby d9_45) (by decide) (by decide) e5 ?_
      exact ⟨rfl, Np15, Kp14, Fa_7, Ga_8, Ca_11⟩
    | succ k ih =>
      intro i TL hL locs XL eL NL ZL KL Ea Fa Ga Fb Gb Ca Cb hk
      refine Go.on (fun t k => XS.iloadN XL.here hx rfl (hb hby d9_2) rfl k) ?_
      show Go p.tables e below s _ _ _ (TL.setTop (mkF m 3 #[.val (.ref a1), .val (.ref a2), .val (.int (Int32.ofNat i))] [(.int (Int32.ofNat i))]))
      refine Go.on (fun t k => XS.aloadN XL.here hx rfl (hb hby d9_3) rfl rfl k) ?_
      show Go p.tables e below s _ _ _ (TL.setTop (mkF m 4 #[.val (.ref a1), .val (.ref a2), .val (.int (Int32.ofNat i))] [(.ref a1), (.int (Int32.ofNat i))]))
      obtain ⟨T16, X16, e16, st16⟩ := getF XL hx hZ hown (host := "") (Or.inl (hw _ (List.mem_of_getElem? (i := 24) rfl))) Via.refl eL Fa (g := (mkF m 4 #[.val (.ref a1), .val (.ref a2), .val (.int (Int32.ofNat i))] [(.ref a1), (.int (Int32.ofNat i))])) rfl rfl (hb hby d9_4)
      refine Go.on st16 ?_
      show Go p.tables e below s _ _ _ (T16.setTop (mkF m 7 #[.val (.ref a1), .val (.ref a2), .val (.int (Int32.ofNat i))] [(.ref cc), (.int (Int32.ofNat i))]))
      obtain ⟨cl17, Ar17, S17, H17⟩ := id Ca
      refine Go.on (fun t k => X16.arraylength hx (by rw [e16]; exact Ar17.1) (State.isArrayOf_alike hZ.alike Ar17.2.1) (g := (mkF m 7 #[.val (.ref a1), .val (.ref a2), .val (.int (Int32.ofNat i))] [(.ref cc), (.int (Int32.ofNat i))])) rfl rfl (hb hby d9_7) t k) ?_
      rw [own_csz S17]
      show Go p.tables e below s _ _ _ (T16.setTop (mkF m 8 #[.val (.ref a1), .val (.ref a2), .val (.int (Int32.ofNat i))] [(.int (45056 : Int32)), (.int (Int32.ofNat i))]))
      have hc : Int32.ofNat i < (45056 : Int32) := (own_lt (n := 45056) (by omega) (by omega)).mpr (by omega)
      refine Go.on (fun t k => XS.icmpNo X16.here hx rfl (hb hby d9_8) rfl (tlt hc).2.1 k) ?_
      show Go p.tables e below s _ _ _ (T16.setTop (mkF m 11 #[.val (.ref a1), .val (.ref a2), .val (.int (Int32.ofNat i))] []))
      refine Go.on (fun t k => XS.aloadN X16.here hx rfl (hb hby d9_11) rfl rfl k) ?_
      show Go p.tables e below s _ _ _ (T16.setTop (mkF m 12 #[.val (.ref a1), .val (.ref a2), .val (.int (Int32.ofNat i))] [(.ref a1)]))
      obtain ⟨T18, X18, e18, st18⟩ := getF X16 hx hZ hown (host := "") (Or.inl (hw _ (List.mem_of_getElem? (i := 24) rfl))) Via.refl e16 Fa (g := (mkF m 12 #[.val (.ref a1), .val (.ref a2), .val (.int (Int32.ofNat i))] [(.ref a1)])) rfl rfl (hb hby d9_12)
      refine Go.on st18 ?_
      show Go p.tables e below s _ _ _ (T18.setTop (mkF m 15 #[.val (.ref a1), .val (.ref a2), .val (.int (Int32.ofNat i))] [(.ref cc)]))
      refine Go.on (fun t k => XS.iloadN X18.here hx rfl (hb hby d9_15) rfl k) ?_
      show Go p.tables e below s _ _ _ (T18.setTop (mkF m 16 #[.val (.ref a1), .val (.ref a2), .val (.int (Int32.ofNat i))] [(.int (Int32.ofNat i)), (.ref cc)]))
      refine Go.on (fun t k => Jvm.Free.XT.dup2 X18.here hx rfl (hb hby d9_16) rfl rfl rfl k) ?_
      show Go p.tables e below s _ _ _ (T18.setTop (mkF m 17 #[.val (.ref a1), .val (.ref a2), .val (.int (Int32.ofNat i))] [(.int (Int32.ofNat i)), (.ref cc), (.int (Int32.ofNat i)), (.ref cc)]))
      obtain ⟨cl19, Ar19, S19, H19⟩ := id Ca
      have hin19 := own_cin S19 ((by omega) : i < 45056)
      have hat19 := own_cat H19 ((by omega) : i < 45056)
      refine Go.on (fun t k => X18.laload hx (j := (Int32.ofNat i)) (v := (.long ((own_both f g i) i))) (by rw [e18]; exact Ar19.1) (State.isArrayOf_alike hZ.alike Ar19.2.1) Ar19.2.2 hin19 hat19 (g := (mkF m 17 #[.val (.ref a1), .val (.ref a2), .val (.int (Int32.ofNat i))] [(.int (Int32.ofNat i)), (.ref cc), (.int (Int32.ofNat i)), (.ref cc)])) rfl rfl (hb hby d9_17) t k) ?_
      show Go p.tables e below s _ _ _ (T18.setTop (mkF m 18 #[.val (.ref a1), .val (.ref a2), .val (.int (Int32.ofNat i))] [(.long ((own_both f g i) i)), (.int (Int32.ofNat i)), (.ref cc)]))
      refine Go.on (fun t k => XS.aloadN X18.here hx rfl (hb hby d9_18) rfl rfl k) ?_
      show Go p.tables e below s _ _ _ (T18.setTop (mkF m 19 #[.val (.ref a1), .val (.ref a2), .val (.int (Int32.ofNat i))] [(.ref a2), (.long ((own_both f g i) i)), (.int (Int32.ofNat i)), (.ref cc)]))
      obtain ⟨T20, X20, e20, st20⟩ := getF X18 hx hZ hown (host := "") (Or.inl (hw _ (List.mem_of_getElem? (i := 24) rfl))) Via.refl e18 Fb (g := (mkF m 19 #[.val (.ref a1), .val (.ref a2), .val (.int (Int32.ofNat i))] [(.ref a2), (.long ((own_both f g i) i)), (.int (Int32.ofNat i)), (.ref cc)])) rfl rfl (hb hby d9_19)
      refine Go.on st20 ?_
      show Go p.tables e below s _ _ _ (T20.setTop (mkF m 22 #[.val (.ref a1), .val (.ref a2), .val (.int (Int32.ofNat i))] [(.ref c2), (.long ((own_both f g i) i)), (.int (Int32.ofNat i)), (.ref cc)]))
      refine Go.on (fun t k => XS.iloadN X20.here hx rfl (hb hby d9_22) rfl k) ?_
      show Go p.tables e below s _ _ _ (T20.setTop (mkF m 23 #[.val (.ref a1), .val (.ref a2), .val (.int (Int32.ofNat i))] [(.int (Int32.ofNat i)), (.ref c2), (.long ((own_both f g i) i)), (.int (Int32.ofNat i)), (.ref cc)]))
      obtain ⟨cl21, Ar21, S21, H21⟩ := id Cb
      have hin21 := own_cin S21 ((by omega) : i < 45056)
      have hat21 := own_cat H21 ((by omega) : i < 45056)
      refine Go.on (fun t k => X20.laload hx (j := (Int32.ofNat i)) (v := (.long (g i))) (by rw [e20]; exact Ar21.1) (State.isArrayOf_alike hZ.alike Ar21.2.1) Ar21.2.2 hin21 hat21 (g := (mkF m 23 #[.val (.ref a1), .val (.ref a2), .val (.int (Int32.ofNat i))] [(.int (Int32.ofNat i)), (.ref c2), (.long ((own_both f g i) i)), (.int (Int32.ofNat i)), (.ref cc)])) rfl rfl (hb hby d9_23) t k) ?_
      show Go p.tables e below s _ _ _ (T20.setTop (mkF m 24 #[.val (.ref a1), .val (.ref a2), .val (.int (Int32.ofNat i))] [(.long (g i)), (.long ((own_both f g i) i)), (.int (Int32.ofNat i)), (.ref cc)]))
      refine Go.on (fun t k => XS.ladd X20.here hx rfl (hb hby d9_24) rfl k) ?_
      show Go p.tables e below s _ _ _ (T20.setTop (mkF m 25 #[.val (.ref a1), .val (.ref a2), .val (.int (Int32.ofNat i))] [(.long (((own_both f g i) i) + (g i))), (.int (Int32.ofNat i)), (.ref cc)]))
      obtain ⟨cl22, Ar22, S22, H22⟩ := id Ca
      have hin22 := own_cin S22 ((by omega) : i < 45056)
      obtain ⟨T22, h22, X22, e22, W22, st22⟩ := stJ X20 hx hZ e20 Ar22 (j := (Int32.ofNat i)) hin22 (g := (mkF m 25 #[.val (.ref a1), .val (.ref a2), .val (.int (Int32.ofNat i))] [(.long (((own_both f g i) i) + (g i))), (.int (Int32.ofNat i)), (.ref cc)])) rfl rfl (hb hby d9_25)
      have Ccc_23 : Cnt Z h22 cc (own_both f g (i + 1)) := own_bothF rfl (Cnt.set Ar22 S22 H22 W22 ((by omega) : i < 45056))
      have Ea_24 := Ea.wr W22
      have Fa_25 := Fa.other W22 (Or.inl ne_a1_cc)
      have Ga_26 := Ga.other W22 (Or.inl ne_a1_cc)
      have Fb_27 := Fb.other W22 (Or.inl ne_a2_cc)
      have Gb_28 := Gb.other W22 (Or.inl ne_a2_cc)
      have Cb_29 := Cb.other W22 ne_c2_cc
      have Zp30 := Nat.le_trans ZL (Keep.of_wr W22).1
      have Kp31 := KL.wr W22 (Or.inl (List.mem_of_getElem? (i := 1) rfl))
      have Np32 := Fr.snoc X22 NL ge_cc
      refine Go.on st22 ?_
      show Go p.tables e below s _ _ _ (T22.setTop (mkF m 26 #[.val (.ref a1), .val (.ref a2), .val (.int (Int32.ofNat i))] []))
      refine Go.on (fun t k => XS.iinc X22.here hx rfl (hb hby d9_26) rfl (l' := #[.val (.ref a1), .val (.ref a2), .val (.int ((Int32.ofNat i) + (1 : Int32)))]) rfl k) ?_
      show Go p.tables e below s _ _ _ (T22.setTop (mkF m 29 #[.val (.ref a1), .val (.ref a2), .val (.int ((Int32.ofNat i) + (1 : Int32)))] []))
      rw [show Int32.ofNat i + (1 : Int32) = Int32.ofNat (i + 1) from own_add i 1]
      show Go p.tables e below s _ _ _ (T22.setTop (mkF m 29 #[.val (.ref a1), .val (.ref a2), .val (.int (Int32.ofNat (i + 1)))] []))
      refine Go.on (fun t k => XS.goto X22.here hx rfl (pc0 := 29) (pc' := 2) rfl (hb hby d9_29) (by decide) (by decide) k) ?_
      show Go p.tables e below s _ _ _ (T22.setTop (mkF m 2 #[.val (.ref a1), .val (.ref a2), .val (.int (Int32.ofNat (i + 1)))] []))
      exact ih (i + 1) T22 h22 _ X22 e22 Np32 Zp30 Kp31 Ea_24 Fa_25 Ga_26 Fb_27 Gb_28 Ccc_23 Cb_29 (by omega)
  refine Go.on (fun t k => XS.iconst X0.here hx rfl (hb hby d9_0) k) ?_
  show Go p.tables e below s _ _ _ (s₁.setTop (mkF m 1 #[.val (.ref a1), .val (.ref a2), .unset] [(.int (0 : Int32))]))
  refine Go.on (fun t k => XS.istoreN X0.here hx rfl (hb hby d9_1) rfl (l' := #[.val (.ref a1), .val (.ref a2), .val (.int (0 : Int32))]) rfl k) ?_
  show Go p.tables e below s _ _ _ (s₁.setTop (mkF m 2 #[.val (.ref a1), .val (.ref a2), .val (.int (0 : Int32))] []))
  have Ca0 : Cnt Z h0 cc (own_both f g 0) := by rw [show own_both f g 0 = f from funext fun j => by simp [own_both]]; exact C_cc
  exact loop 45056 0 s₁ h0 [] X0 e0 N0 Z0 (Keep.refl h0 [a1, cc]) E_a1 F_counts_a1 F_count_a1 F_counts_a2 F_count_a2 Ca0 C_c2 (by omega)
theorem d11_0 : decode prog_15_method_6_code 0 = .ok (.iload_n 0, 1) := by decide +kernel
theorem d11_1 : decode prog_15_method_6_code 1 = .ok (.sipush 4096, 3) := by decide +kernel
theorem d11_4 : decode prog_15_method_6_code 4 = .ok (.if_icmp .ge 6, 3) := by decide +kernel
theorem d11_7 : decode prog_15_method_6_code 7 = .ok (.iload_n 0, 1) := by decide +kernel
theorem d11_8 : decode prog_15_method_6_code 8 = .ok (.i2l, 1) := by decide +kernel
theorem d11_9 : decode prog_15_method_6_code 9 = .ok (.lreturn, 1) := by decide +kernel
theorem d11_10 : decode prog_15_method_6_code 10 = .ok (.iload_n 0, 1) := by decide +kernel
theorem d11_11 : decode prog_15_method_6_code 11 = .ok (.sipush 4096, 3) := by decide +kernel
theorem d11_14 : decode prog_15_method_6_code 14 = .ok (.isub, 1) := by decide +kernel
theorem d11_15 : decode prog_15_method_6_code 15 = .ok (.sipush 2048, 3) := by decide +kernel
theorem d11_18 : decode prog_15_method_6_code 18 = .ok (.idiv, 1) := by decide +kernel
theorem d11_19 : decode prog_15_method_6_code 19 = .ok (.iconst 1, 1) := by decide +kernel
theorem d11_20 : decode prog_15_method_6_code 20 = .ok (.iadd, 1) := by decide +kernel
theorem d11_21 : decode prog_15_method_6_code 21 = .ok (.istore_n 1, 1) := by decide +kernel
theorem d11_22 : decode prog_15_method_6_code 22 = .ok (.iload_n 0, 1) := by decide +kernel
theorem d11_23 : decode prog_15_method_6_code 23 = .ok (.sipush 4096, 3) := by decide +kernel
theorem d11_26 : decode prog_15_method_6_code 26 = .ok (.isub, 1) := by decide +kernel
theorem d11_27 : decode prog_15_method_6_code 27 = .ok (.sipush 2048, 3) := by decide +kernel
theorem d11_30 : decode prog_15_method_6_code 30 = .ok (.irem, 1) := by decide +kernel
theorem d11_31 : decode prog_15_method_6_code 31 = .ok (.sipush 2048, 3) := by decide +kernel
theorem d11_34 : decode prog_15_method_6_code 34 = .ok (.iadd, 1) := by decide +kernel
theorem d11_35 : decode prog_15_method_6_code 35 = .ok (.i2l, 1) := by decide +kernel
theorem d11_36 : decode prog_15_method_6_code 36 = .ok (.lstore_n 2, 1) := by decide +kernel
theorem d11_37 : decode prog_15_method_6_code 37 = .ok (.lload_n 2, 1) := by decide +kernel
theorem d11_38 : decode prog_15_method_6_code 38 = .ok (.iload_n 1, 1) := by decide +kernel
theorem d11_39 : decode prog_15_method_6_code 39 = .ok (.lshl, 1) := by decide +kernel
theorem d11_40 : decode prog_15_method_6_code 40 = .ok (.lreturn, 1) := by decide +kernel
theorem ef_11 (m : MethodId) (x0 : Int32) : entryFrame m #[(.int x0)] 4 = mkF m 0 #[.val (.int x0), .unset, .unset, .unset] [] := by first | (simp [entryFrame, mkF, argsToLocals, Value.category]; done) | rfl
def Q11 (Z : State) (p1 : Int32) (h0 : Heap) (n0 : Nat) (v : Option Value) (h : Heap) (L : List Loc) : Prop := v = some (.long (own_low p1)) ∧ Fr n0 L ∧ h = h0
set_option maxRecDepth 65536 in
set_option maxHeartbeats 40000000 in
theorem rm11 (l : Launch) (Z : State) (a0 : Array Value) (hw : ∀ d ∈ tables_1, d.before a0 Z = true) (ws : List Jvm.Cond) (p1 : Int32) (h0 : Heap) (n0 : Nat) (Z0 : n0 ≤ h0.size)  :
    MetFree l (⟨"com/example/loomport/loomport/loadgen/Latencies", "lowest", "(I)J"⟩ : MethodName) (head1 (Jvm.Cond.code (⟨"com/example/loomport/loomport/loadgen/Latencies", "lowest", "(I)J"⟩ : MethodName) prog_15_method_6_code 4 (some .long) :: ws) ({ frames := 0, cells := 0, slots := 0, locals := 0 } : Room)) (fun a U => a = #[(.int p1)] ∧ Z.Warmed39 U.vm ∧ U.heap = h0) (fun _ _ _ _ _ => True) (fun _ U o U' => ∃ v L, o = .returned v ∧ Q11 Z p1 h0 n0 v U'.heap L ∧ FrameEnd U o U' L ({ frames := 0, cells := 0, slots := 0, locals := 0 } : Room).cells ({ frames := 0, cells := 0, slots := 0, locals := 0 } : Room).slots) := by
  refine MetFree.of_bodySF (plainFor_of_name pn_com_example_loomport_loomport_loadgen_Latencies) hisR ?_
  intro p e s m args below meth c s₁ Bd hml0 hP hK
  obtain ⟨rfl, hZ, hh⟩ := hP
  have hx := Bd.exec
  have hby := Bd.bytes
  have hlk : meth.locks = false := BodyLoose.notSynchronized Bd
  have hml : c.maxLocals = 4 := hml0
  have hown : s.vm.findClass "com/example/loomport/loomport/loadgen/Latencies" = some m.cls := findClass_of_methodNamed Bd.named
  have hnm := (name_of_methodNamed Bd.named Bd.method).1
  have X0 : Stand p l e ({ frames := 0, cells := 0, slots := 0, locals := 0 } : Room) s m #[(.int p1)] below meth c s₁ [] 0 0 := Stand.of_body Bd
  have e0 : s₁.heap = h0 := by rw [← hh, Bd.state]; rfl
  have N0 := Fr.nil n0
  show Go p.tables e below s (Q11 Z p1 h0 n0) ({ frames := 0, cells := 0, slots := 0, locals := 0 } : Room).cells ({ frames := 0, cells := 0, slots := 0, locals := 0 } : Room).slots (s₁.setTop (entryFrame m #[(.int p1)] 4))
  refine Go.on (fun t k => castTop (ef_11 m p1) k) ?_
  show Go p.tables e below s _ _ _ (s₁.setTop (mkF m 0 #[.val (.int p1), .unset, .unset, .unset] []))
  refine Go.on (fun t k => XS.iloadN X0.here hx rfl (hb hby d11_0) rfl k) ?_
  show Go p.tables e below s _ _ _ (s₁.setTop (mkF m 1 #[.val (.int p1), .unset, .unset, .unset] [(.int p1)]))
  refine Go.on (fun t k => XS.sipush X0.here hx rfl (hb hby d11_1) k) ?_
  show Go p.tables e below s _ _ _ (s₁.setTop (mkF m 4 #[.val (.int p1), .unset, .unset, .unset] [(.int (4096 : Int32)), (.int p1)]))
  by_cases hc4_1 : p1 < (4096 : Int32)
  · refine Go.on (fun t k => XS.icmpNo X0.here hx rfl (hb hby d11_4) rfl (tlt hc4_1).2.1 k) ?_
    show Go p.tables e below s _ _ _ (s₁.setTop (mkF m 7 #[.val (.int p1), .unset, .unset, .unset] []))
    refine Go.on (fun t k => XS.iloadN X0.here hx rfl (hb hby d11_7) rfl k) ?_
    show Go p.tables e below s _ _ _ (s₁.setTop (mkF m 8 #[.val (.int p1), .unset, .unset, .unset] [(.int p1)]))
    refine Go.on (fun t k => XS.i2l X0.here hx rfl (hb hby d11_8) rfl k) ?_
    show Go p.tables e below s _ _ _ (s₁.setTop (mkF m 9 #[.val (.int p1), .unset, .unset, .unset] [(.long (p1.toInt64))]))
    refine Go.retJ X0 hx hlk Bd.returns (hb hby d11_9) (by decide) (by decide) e0 ?_
    exact ⟨(by rw [own_low, if_pos hc4_1]), N0, rfl⟩
  · refine Go.on (fun t k => XS.icmpYes X0.here hx rfl (pc0 := 4) (pc' := 10) rfl (hb hby d11_4) rfl (flt hc4_1).2.1 (by decide) (by decide) k) ?_
    show Go p.tables e below s _ _ _ (s₁.setTop (mkF m 10 #[.val (.int p1), .unset, .unset, .unset] []))
    refine Go.on (fun t k => XS.iloadN X0.here hx rfl (hb hby d11_10) rfl k) ?_
    show Go p.tables e below s _ _ _ (s₁.setTop (mkF m 11 #[.val (.int p1), .unset, .unset, .unset] [(.int p1)]))
    refine Go.on (fun t k => XS.sipush X0.here hx rfl (hb hby d11_11) k) ?_
    show Go p.tables e below s _ _ _ (s₁.setTop (mkF m 14 #[.val (.int p1), .unset, .unset, .unset] [(.int (4096 : Int32)), (.int p1)]))
    refine Go.on (fun t k => XS.isub X0.here hx rfl (hb hby d11_14) rfl k) ?_
    show Go p.tables e below s _ _ _ (s₁.setTop (mkF m 15 #[.val (.int p1), .unset, .unset, .unset] [(.int (p1 - (4096 : Int32)))]))
    refine Go.on (fun t k => XS.sipush X0.here hx rfl (hb hby d11_15) k) ?_
    show Go p.tables e below s _ _ _ (s₁.setTop (mkF m 18 #[.val (.int p1), .unset, .unset, .unset] [(.int (2048 : Int32)), (.int (p1 - (4096 : Int32)))]))
    refine Go.on (fun t k => XS.idiv X0.here hx rfl (hb hby d11_18) rfl (by decide) k) ?_
    show Go p.tables e below s _ _ _ (s₁.setTop (mkF m 19 #[.val (.int p1), .unset, .unset, .unset] [(.int ((p1 - (4096 : Int32)) / (2048 : Int32)))]))
    refine Go.on (fun t k => XS.iconst X0.here hx rfl (hb hby d11_19) k) ?_
    show Go p.tables e below s _ _ _ (s₁.setTop (mkF m 20 #[.val (.int p1), .unset, .unset, .unset] [(.int (1 : Int32)), (.int ((p1 - (4096 : Int32)) / (2048 : Int32)))]))
    refine Go.on (fun t k => XS.iadd X0.here hx rfl (hb hby d11_20) rfl k) ?_
    show Go p.tables e below s _ _ _ (s₁.setTop (mkF m 21 #[.val (.int p1), .unset, .unset, .unset] [(.int (((p1 - (4096 : Int32)) / (2048 : Int32)) + (1 : Int32)))]))
    refine Go.on (fun t k => XS.istoreN X0.here hx rfl (hb hby d11_21) rfl (l' := #[.val (.int p1), .val (.int (((p1 - (4096 : Int32)) / (2048 : Int32)) + (1 : Int32))), .unset, .unset]) rfl k) ?_
    show Go p.tables e below s _ _ _ (s₁.setTop (mkF m 22 #[.val (.int p1), .val (.int (((p1 - (4096 : Int32)) / (2048 : Int32)) + (1 : Int32))), .unset, .unset] []))
    refine Go.on (fun t k => XS.iloadN X0.here hx rfl (hb hby d11_22) rfl k) ?_
    show Go p.tables e below s _ _ _ (s₁.setTop (mkF m 23 #[.val (.int p1), .val (.int (((p1 - (4096 : Int32)) / (2048 : Int32)) + (1 : Int32))), .unset, .unset] [(.int p1)]))
    refine Go.on (fun t k => XS.sipush X0.here hx rfl (hb hby d11_23) k) ?_
    show Go p.tables e below s _ _ _ (s₁.setTop (mkF m 26 #[.val (.int p1), .val (.int (((p1 - (4096 : Int32)) / (2048 : Int32)) + (1 : Int32))), .unset, .unset] [(.int (4096 : Int32)), (.int p1)]))
    refine Go.on (fun t k => XS.isub X0.here hx rfl (hb hby d11_26) rfl k) ?_
    show Go p.tables e below s _ _ _ (s₁.setTop (mkF m 27 #[.val (.int p1), .val (.int (((p1 - (4096 : Int32)) / (2048 : Int32)) + (1 : Int32))), .unset, .unset] [(.int (p1 - (4096 : Int32)))]))
    refine Go.on (fun t k => XS.sipush X0.here hx rfl (hb hby d11_27) k) ?_
    show Go p.tables e below s _ _ _ (s₁.setTop (mkF m 30 #[.val (.int p1), .val (.int (((p1 - (4096 : Int32)) / (2048 : Int32)) + (1 : Int32))), .unset, .unset] [(.int (2048 : Int32)), (.int (p1 - (4096 : Int32)))]))
    refine Go.on (fun t k => Jvm.RoadKit.iremM X0 hx rfl (hb hby d11_30) rfl (by decide) k) ?_
    show Go p.tables e below s _ _ _ (s₁.setTop (mkF m 31 #[.val (.int p1), .val (.int (((p1 - (4096 : Int32)) / (2048 : Int32)) + (1 : Int32))), .unset, .unset] [(.int ((p1 - (4096 : Int32)) % (2048 : Int32)))]))
    refine Go.on (fun t k => XS.sipush X0.here hx rfl (hb hby d11_31) k) ?_
    show Go p.tables e below s _ _ _ (s₁.setTop (mkF m 34 #[.val (.int p1), .val (.int (((p1 - (4096 : Int32)) / (2048 : Int32)) + (1 : Int32))), .unset, .unset] [(.int (2048 : Int32)), (.int ((p1 - (4096 : Int32)) % (2048 : Int32)))]))
    refine Go.on (fun t k => XS.iadd X0.here hx rfl (hb hby d11_34) rfl k) ?_
    show Go p.tables e below s _ _ _ (s₁.setTop (mkF m 35 #[.val (.int p1), .val (.int (((p1 - (4096 : Int32)) / (2048 : Int32)) + (1 : Int32))), .unset, .unset] [(.int (((p1 - (4096 : Int32)) % (2048 : Int32)) + (2048 : Int32)))]))
    refine Go.on (fun t k => XS.i2l X0.here hx rfl (hb hby d11_35) rfl k) ?_
    show Go p.tables e below s _ _ _ (s₁.setTop (mkF m 36 #[.val (.int p1), .val (.int (((p1 - (4096 : Int32)) / (2048 : Int32)) + (1 : Int32))), .unset, .unset] [(.long ((((p1 - (4096 : Int32)) % (2048 : Int32)) + (2048 : Int32)).toInt64))]))
    refine Go.on (fun t k => XS.lstoreN X0.here hx rfl (hb hby d11_36) rfl (l' := #[.val (.int p1), .val (.int (((p1 - (4096 : Int32)) / (2048 : Int32)) + (1 : Int32))), .val (.long ((((p1 - (4096 : Int32)) % (2048 : Int32)) + (2048 : Int32)).toInt64)), .second]) rfl k) ?_
    show Go p.tables e below s _ _ _ (s₁.setTop (mkF m 37 #[.val (.int p1), .val (.int (((p1 - (4096 : Int32)) / (2048 : Int32)) + (1 : Int32))), .val (.long ((((p1 - (4096 : Int32)) % (2048 : Int32)) + (2048 : Int32)).toInt64)), .second] []))
    refine Go.on (fun t k => XS.lloadN X0.here hx rfl (hb hby d11_37) rfl k) ?_
    show Go p.tables e below s _ _ _ (s₁.setTop (mkF m 38 #[.val (.int p1), .val (.int (((p1 - (4096 : Int32)) / (2048 : Int32)) + (1 : Int32))), .val (.long ((((p1 - (4096 : Int32)) % (2048 : Int32)) + (2048 : Int32)).toInt64)), .second] [(.long ((((p1 - (4096 : Int32)) % (2048 : Int32)) + (2048 : Int32)).toInt64))]))
    refine Go.on (fun t k => XS.iloadN X0.here hx rfl (hb hby d11_38) rfl k) ?_
    show Go p.tables e below s _ _ _ (s₁.setTop (mkF m 39 #[.val (.int p1), .val (.int (((p1 - (4096 : Int32)) / (2048 : Int32)) + (1 : Int32))), .val (.long ((((p1 - (4096 : Int32)) % (2048 : Int32)) + (2048 : Int32)).toInt64)), .second] [(.int (((p1 - (4096 : Int32)) / (2048 : Int32)) + (1 : Int32))), (.long ((((p1 - (4096 : Int32)) % (2048 : Int32)) + (2048 : Int32)).toInt64))]))
    refine Go.on (fun t k => XS.lshl X0.here hx rfl (hb hby d11_39) rfl k) ?_
    show Go p.tables e below s _ _ _ (s₁.setTop (mkF m 40 #[.val (.int p1), .val (.int (((p1 - (4096 : Int32)) / (2048 : Int32)) + (1 : Int32))), .val (.long ((((p1 - (4096 : Int32)) % (2048 : Int32)) + (2048 : Int32)).toInt64)), .second] [(.long (((((p1 - (4096 : Int32)) % (2048 : Int32)) + (2048 : Int32)).toInt64) <<< ((((p1 - (4096 : Int32)) / (2048 : Int32)) + (1 : Int32)) &&& 0x3f).toInt64))]))
    refine Go.retJ X0 hx hlk Bd.returns (hb hby d11_40) (by decide) (by decide) e0 ?_
    exact ⟨(by rw [own_low, if_neg hc4_1]), N0, rfl⟩
theorem d10_0 : decode prog_15_method_4_code 0 = .ok (.lconst 1, 1) := by decide +kernel
theorem d10_1 : decode prog_15_method_4_code 1 = .ok (.aload_n 0, 1) := by decide +kernel
theorem d10_2 : decode prog_15_method_4_code 2 = .ok (.getfield 28, 3) := by decide +kernel
theorem d10_5 : decode prog_15_method_4_code 5 = .ok (.iload_n 1, 1) := by decide +kernel
theorem d10_6 : decode prog_15_method_4_code 6 = .ok (.i2l, 1) := by decide +kernel
theorem d10_7 : decode prog_15_method_4_code 7 = .ok (.lmul, 1) := by decide +kernel
theorem d10_8 : decode prog_15_method_4_code 8 = .ok (.ldc2_w 32, 3) := by decide +kernel
theorem d10_11 : decode prog_15_method_4_code 11 = .ok (.ladd, 1) := by decide +kernel
theorem d10_12 : decode prog_15_method_4_code 12 = .ok (.ldc2_w 34, 3) := by decide +kernel
theorem d10_15 : decode prog_15_method_4_code 15 = .ok (.ldiv, 1) := by decide +kernel
theorem d10_16 : decode prog_15_method_4_code 16 = .ok (.invokestatic 19, 3) := by decide +kernel
theorem d10_19 : decode prog_15_method_4_code 19 = .ok (.lstore_n 2, 1) := by decide +kernel
theorem d10_20 : decode prog_15_method_4_code 20 = .ok (.lconst 0, 1) := by decide +kernel
theorem d10_21 : decode prog_15_method_4_code 21 = .ok (.lstore 4, 2) := by decide +kernel
theorem d10_23 : decode prog_15_method_4_code 23 = .ok (.iconst 0, 1) := by decide +kernel
theorem d10_24 : decode prog_15_method_4_code 24 = .ok (.istore 6, 2) := by decide +kernel
theorem d10_26 : decode prog_15_method_4_code 26 = .ok (.iload 6, 2) := by decide +kernel
theorem d10_28 : decode prog_15_method_4_code 28 = .ok (.aload_n 0, 1) := by decide +kernel
theorem d10_29 : decode prog_15_method_4_code 29 = .ok (.getfield 15, 3) := by decide +kernel
theorem d10_32 : decode prog_15_method_4_code 32 = .ok (.arraylength, 1) := by decide +kernel
theorem d10_33 : decode prog_15_method_4_code 33 = .ok (.if_icmp .ge 34, 3) := by decide +kernel
theorem d10_36 : decode prog_15_method_4_code 36 = .ok (.lload 4, 2) := by decide +kernel
theorem d10_38 : decode prog_15_method_4_code 38 = .ok (.aload_n 0, 1) := by decide +kernel
theorem d10_39 : decode prog_15_method_4_code 39 = .ok (.getfield 15, 3) := by decide +kernel
theorem d10_42 : decode prog_15_method_4_code 42 = .ok (.iload 6, 2) := by decide +kernel
theorem d10_44 : decode prog_15_method_4_code 44 = .ok (.laload, 1) := by decide +kernel
theorem d10_45 : decode prog_15_method_4_code 45 = .ok (.ladd, 1) := by decide +kernel
theorem d10_46 : decode prog_15_method_4_code 46 = .ok (.lstore 4, 2) := by decide +kernel
theorem d10_48 : decode prog_15_method_4_code 48 = .ok (.lload 4, 2) := by decide +kernel
theorem d10_50 : decode prog_15_method_4_code 50 = .ok (.lload_n 2, 1) := by decide +kernel
theorem d10_51 : decode prog_15_method_4_code 51 = .ok (.lcmp, 1) := by decide +kernel
theorem d10_52 : decode prog_15_method_4_code 52 = .ok (.ifCond .lt 9, 3) := by decide +kernel
theorem d10_55 : decode prog_15_method_4_code 55 = .ok (.iload 6, 2) := by decide +kernel
theorem d10_57 : decode prog_15_method_4_code 57 = .ok (.invokestatic 36, 3) := by decide +kernel
theorem d10_60 : decode prog_15_method_4_code 60 = .ok (.lreturn, 1) := by decide +kernel
theorem d10_61 : decode prog_15_method_4_code 61 = .ok (.iinc 6 1, 3) := by decide +kernel
theorem d10_64 : decode prog_15_method_4_code 64 = .ok (.goto (-38), 3) := by decide +kernel
theorem d10_67 : decode prog_15_method_4_code 67 = .ok (.lconst 0, 1) := by decide +kernel
theorem d10_68 : decode prog_15_method_4_code 68 = .ok (.lreturn, 1) := by decide +kernel
theorem ef_10 (m : MethodId) (x0 : Addr) (x1 : Int32) : entryFrame m #[(.ref x0), (.int x1)] 7 = mkF m 0 #[.val (.ref x0), .val (.int x1), .unset, .unset, .unset, .unset, .unset] [] := by first | (simp [entryFrame, mkF, argsToLocals, Value.category]; done) | rfl
def Q10 (Z : State) (a1 : Addr) (p2 : Int32) (cc : Addr) (n : Int64) (f : Nat → Int64) (h0 : Heap) (n0 : Nat) (v : Option Value) (h : Heap) (L : List Loc) : Prop := v = some (.long (own_pct f n p2)) ∧ Fr n0 L ∧ h = h0
set_option maxRecDepth 65536 in
set_option maxHeartbeats 40000000 in
theorem rm10 (l : Launch) (Z : State) (a0 : Array Value) (hw : ∀ d ∈ tables_1, d.before a0 Z = true) (ws : List Jvm.Cond) (a1 : Addr) (p2 : Int32) (cc : Addr) (n : Int64) (f : Nat → Int64) (h0 : Heap) (n0 : Nat) (Z0 : n0 ≤ h0.size) (F_counts_a1 : Fld Z h0 a1 "com/example/loomport/loomport/loadgen/Latencies" "counts" "[J" (.ref cc)) (F_count_a1 : Fld Z h0 a1 "com/example/loomport/loomport/loadgen/Latencies" "count" "J" (.long n)) (C_cc : Cnt Z h0 cc f) :
    MetFree l (⟨"com/example/loomport/loomport/loadgen/Latencies", "percentile", "(I)J"⟩ : MethodName) (head1 (Jvm.Cond.code (⟨"com/example/loomport/loomport/loadgen/Latencies", "percentile", "(I)J"⟩ : MethodName) prog_15_method_4_code 7 (some .long) :: ws) ({ frames := 1, cells := 0, slots := 0, locals := 17 } : Room)) (fun a U => a = #[(.ref a1), (.int p2)] ∧ Z.Warmed39 U.vm ∧ U.heap = h0) (fun _ _ _ _ _ => True) (fun _ U o U' => ∃ v L, o = .returned v ∧ Q10 Z a1 p2 cc n f h0 n0 v U'.heap L ∧ FrameEnd U o U' L ({ frames := 1, cells := 0, slots := 0, locals := 17 } : Room).cells ({ frames := 1, cells := 0, slots := 0, locals := 17 } : Room).slots) := by
  refine MetFree.of_bodySF (plainFor_of_name pn_com_example_loomport_loomport_loadgen_Latencies) hisR ?_
  intro p e s m args below meth c s₁ Bd hml0 hP hK
  obtain ⟨rfl, hZ, hh⟩ := hP
  have hx := Bd.exec
  have hby := Bd.bytes
  have hlk : meth.locks = false := BodyLoose.notSynchronized Bd
  have hml : c.maxLocals = 7 := hml0
  have hown : s.vm.findClass "com/example/loomport/loomport/loadgen/Latencies" = some m.cls := findClass_of_methodNamed Bd.named
  have hnm := (name_of_methodNamed Bd.named Bd.method).1
  have X0 : Stand p l e ({ frames := 1, cells := 0, slots := 0, locals := 17 } : Room) s m #[(.ref a1), (.int p2)] below meth c s₁ [] 0 0 := Stand.of_body Bd
  have e0 : s₁.heap = h0 := by rw [← hh, Bd.state]; rfl
  have N0 := Fr.nil n0
  show Go p.tables e below s (Q10 Z a1 p2 cc n f h0 n0) ({ frames := 1, cells := 0, slots := 0, locals := 17 } : Room).cells ({ frames := 1, cells := 0, slots := 0, locals := 17 } : Room).slots (s₁.setTop (entryFrame m #[(.ref a1), (.int p2)] 7))
  refine Go.on (fun t k => castTop (ef_10 m a1 p2) k) ?_
  show Go p.tables e below s _ _ _ (s₁.setTop (mkF m 0 #[.val (.ref a1), .val (.int p2), .unset, .unset, .unset, .unset, .unset] []))
  have loop : ∀ (k i : Nat) (S : Int64) (TL : State) (locs : List Loc) (XL : Stand p l e ({ frames := 1, cells := 0, slots := 0, locals := 17 } : Room) s m #[(.ref a1), (.int p2)] below meth c TL locs 0 0) (eL : TL.heap = h0) (NL : Fr n0 locs), i + k = 45056 → own_scan f (own_rank n p2) k i S = own_pct f n p2 → Go p.tables e below s (Q10 Z a1 p2 cc n f h0 n0) ({ frames := 1, cells := 0, slots := 0, locals := 17 } : Room).cells ({ frames := 1, cells := 0, slots := 0, locals := 17 } : Room).slots (TL.setTop (mkF m 26 #[.val (.ref a1), .val (.int p2), .val (.long (own_rank n p2)), .second, .val (.long S), .second, .val (.int (Int32.ofNat i))] [])) := by
    intro k
    induction k with
    | zero =>
      intro i S TL locs XL eL NL hk hS
      refine Go.on (fun t k => XS.iload XL.here hx rfl (hb hby d10_26) rfl k) ?_
      show Go p.tables e below s _ _ _ (TL.setTop (mkF m 28 #[.val (.ref a1), .val (.int p2), .val (.long (own_rank n p2)), .second, .val (.long S), .second, .val (.int (Int32.ofNat i))] [(.int (Int32.ofNat i))]))
      refine Go.on (fun t k => XS.aloadN XL.here hx rfl (hb hby d10_28) rfl rfl k) ?_
      show Go p.tables e below s _ _ _ (TL.setTop (mkF m 29 #[.val (.ref a1), .val (.int p2), .val (.long (own_rank n p2)), .second, .val (.long S), .second, .val (.int (Int32.ofNat i))] [(.ref a1), (.int (Int32.ofNat i))]))
      obtain ⟨T1, X1, e1, st1⟩ := getF XL hx hZ hown (host := "") (Or.inl (hw _ (List.mem_of_getElem? (i := 24) rfl))) Via.refl eL F_counts_a1 (g := (mkF m 29 #[.val (.ref a1), .val (.int p2), .val (.long (own_rank n p2)), .second, .val (.long S), .second, .val (.int (Int32.ofNat i))] [(.ref a1), (.int (Int32.ofNat i))])) rfl rfl (hb hby d10_29)
      refine Go.on st1 ?_
      show Go p.tables e below s _ _ _ (T1.setTop (mkF m 32 #[.val (.ref a1), .val (.int p2), .val (.long (own_rank n p2)), .second, .val (.long S), .second, .val (.int (Int32.ofNat i))] [(.ref cc), (.int (Int32.ofNat i))]))
      obtain ⟨cl2, Ar2, S2, H2⟩ := id C_cc
      refine Go.on (fun t k => X1.arraylength hx (by rw [e1]; exact Ar2.1) (State.isArrayOf_alike hZ.alike Ar2.2.1) (g := (mkF m 32 #[.val (.ref a1), .val (.int p2), .val (.long (own_rank n p2)), .second, .val (.long S), .second, .val (.int (Int32.ofNat i))] [(.ref cc), (.int (Int32.ofNat i))])) rfl rfl (hb hby d10_32) t k) ?_
      rw [own_csz S2]
      show Go p.tables e below s _ _ _ (T1.setTop (mkF m 33 #[.val (.ref a1), .val (.int p2), .val (.long (own_rank n p2)), .second, .val (.long S), .second, .val (.int (Int32.ofNat i))] [(.int (45056 : Int32)), (.int (Int32.ofNat i))]))
      have hc : ¬ Int32.ofNat i < (45056 : Int32) := fun q => by have := (own_lt (n := 45056) (by omega) (by omega)).mp q; omega
      refine Go.on (fun t k => XS.icmpYes X1.here hx rfl (pc0 := 33) (pc' := 67) rfl (hb hby d10_33) rfl (flt hc).2.1 (by decide) (by decide) k) ?_
      show Go p.tables e below s _ _ _ (T1.setTop (mkF m 67 #[.val (.ref a1), .val (.int p2), .val (.long (own_rank n p2)), .second, .val (.long S), .second, .val (.int (Int32.ofNat i))] []))
      refine Go.on (fun t k => XS.lconst X1.here hx rfl (hb hby d10_67) k) ?_
      show Go p.tables e below s _ _ _ (T1.setTop (mkF m 68 #[.val (.ref a1), .val (.int p2), .val (.long (own_rank n p2)), .second, .val (.long S), .second, .val (.int (Int32.ofNat i))] [(.long (0 : Int64))]))
      refine Go.retJ X1 hx hlk Bd.returns (hb hby d10_68) (by decide) (by decide) e1 ?_
      exact ⟨(by rw [← hS]; rfl), NL, rfl⟩
    | succ k ih =>
      intro i S TL locs XL eL NL hk hS
      refine Go.on (fun t k => XS.iload XL.here hx rfl (hb hby d10_26) rfl k) ?_
      show Go p.tables e below s _ _ _ (TL.setTop (mkF m 28 #[.val (.ref a1), .val (.int p2), .val (.long (own_rank n p2)), .second, .val (.long S), .second, .val (.int (Int32.ofNat i))] [(.int (Int32.ofNat i))]))
      refine Go.on (fun t k => XS.aloadN XL.here hx rfl (hb hby d10_28) rfl rfl k) ?_
      show Go p.tables e below s _ _ _ (TL.setTop (mkF m 29 #[.val (.ref a1), .val (.int p2), .val (.long (own_rank n p2)), .second, .val (.long S), .second, .val (.int (Int32.ofNat i))] [(.ref a1), (.int (Int32.ofNat i))]))
      obtain ⟨T3, X3, e3, st3⟩ := getF XL hx hZ hown (host := "") (Or.inl (hw _ (List.mem_of_getElem? (i := 24) rfl))) Via.refl eL F_counts_a1 (g := (mkF m 29 #[.val (.ref a1), .val (.int p2), .val (.long (own_rank n p2)), .second, .val (.long S), .second, .val (.int (Int32.ofNat i))] [(.ref a1), (.int (Int32.ofNat i))])) rfl rfl (hb hby d10_29)
      refine Go.on st3 ?_
      show Go p.tables e below s _ _ _ (T3.setTop (mkF m 32 #[.val (.ref a1), .val (.int p2), .val (.long (own_rank n p2)), .second, .val (.long S), .second, .val (.int (Int32.ofNat i))] [(.ref cc), (.int (Int32.ofNat i))]))
      obtain ⟨cl4, Ar4, S4, H4⟩ := id C_cc
      refine Go.on (fun t k => X3.arraylength hx (by rw [e3]; exact Ar4.1) (State.isArrayOf_alike hZ.alike Ar4.2.1) (g := (mkF m 32 #[.val (.ref a1), .val (.int p2), .val (.long (own_rank n p2)), .second, .val (.long S), .second, .val (.int (Int32.ofNat i))] [(.ref cc), (.int (Int32.ofNat i))])) rfl rfl (hb hby d10_32) t k) ?_
      rw [own_csz S4]
      show Go p.tables e below s _ _ _ (T3.setTop (mkF m 33 #[.val (.ref a1), .val (.int p2), .val (.long (own_rank n p2)), .second, .val (.long S), .second, .val (.int (Int32.ofNat i))] [(.int (45056 : Int32)), (.int (Int32.ofNat i))]))
      have hc : Int32.ofNat i < (45056 : Int32) := (own_lt (n := 45056) (by omega) (by omega)).mpr (by omega)
      refine Go.on (fun t k => XS.icmpNo X3.here hx rfl (hb hby d10_33) rfl (tlt hc).2.1 k) ?_
      show Go p.tables e below s _ _ _ (T3.setTop (mkF m 36 #[.val (.ref a1), .val (.int p2), .val (.long (own_rank n p2)), .second, .val (.long S), .second, .val (.int (Int32.ofNat i))] []))
      refine Go.on (fun t k => XS.lload X3.here hx rfl (hb hby d10_36) rfl k) ?_
      show Go p.tables e below s _ _ _ (T3.setTop (mkF m 38 #[.val (.ref a1), .val (.int p2), .val (.long (own_rank n p2)), .second, .val (.long S), .second, .val (.int (Int32.ofNat i))] [(.long S)]))
      refine Go.on (fun t k => XS.aloadN X3.here hx rfl (hb hby d10_38) rfl rfl k) ?_
      show Go p.tables e below s _ _ _ (T3.setTop (mkF m 39 #[.val (.ref a1), .val (.int p2), .val (.long (own_rank n p2)), .second, .val (.long S), .second, .val (.int (Int32.ofNat i))] [(.ref a1), (.long S)]))
      obtain ⟨T5, X5, e5, st5⟩ := getF X3 hx hZ hown (host := "") (Or.inl (hw _ (List.mem_of_getElem? (i := 24) rfl))) Via.refl e3 F_counts_a1 (g := (mkF m 39 #[.val (.ref a1), .val (.int p2), .val (.long (own_rank n p2)), .second, .val (.long S), .second, .val (.int (Int32.ofNat i))] [(.ref a1), (.long S)])) rfl rfl (hb hby d10_39)
      refine Go.on st5 ?_
      show Go p.tables e below s _ _ _ (T5.setTop (mkF m 42 #[.val (.ref a1), .val (.int p2), .val (.long (own_rank n p2)), .second, .val (.long S), .second, .val (.int (Int32.ofNat i))] [(.ref cc), (.long S)]))
      refine Go.on (fun t k => XS.iload X5.here hx rfl (hb hby d10_42) rfl k) ?_
      show Go p.tables e below s _ _ _ (T5.setTop (mkF m 44 #[.val (.ref a1), .val (.int p2), .val (.long (own_rank n p2)), .second, .val (.long S), .second, .val (.int (Int32.ofNat i))] [(.int (Int32.ofNat i)), (.ref cc), (.long S)]))
      obtain ⟨cl6, Ar6, S6, H6⟩ := id C_cc
      have hin6 := own_cin S6 ((by omega) : i < 45056)
      have hat6 := own_cat H6 ((by omega) : i < 45056)
      refine Go.on (fun t k => X5.laload hx (j := (Int32.ofNat i)) (v := (.long (f i))) (by rw [e5]; exact Ar6.1) (State.isArrayOf_alike hZ.alike Ar6.2.1) Ar6.2.2 hin6 hat6 (g := (mkF m 44 #[.val (.ref a1), .val (.int p2), .val (.long (own_rank n p2)), .second, .val (.long S), .second, .val (.int (Int32.ofNat i))] [(.int (Int32.ofNat i)), (.ref cc), (.long S)])) rfl rfl (hb hby d10_44) t k) ?_
      show Go p.tables e below s _ _ _ (T5.setTop (mkF m 45 #[.val (.ref a1), .val (.int p2), .val (.long (own_rank n p2)), .second, .val (.long S), .second, .val (.int (Int32.ofNat i))] [(.long (f i)), (.long S)]))
      refine Go.on (fun t k => XS.ladd X5.here hx rfl (hb hby d10_45) rfl k) ?_
      show Go p.tables e below s _ _ _ (T5.setTop (mkF m 46 #[.val (.ref a1), .val (.int p2), .val (.long (own_rank n p2)), .second, .val (.long S), .second, .val (.int (Int32.ofNat i))] [(.long (S + (f i)))]))
      refine Go.on (fun t k => XS.lstore X5.here hx rfl (hb hby d10_46) rfl (l' := #[.val (.ref a1), .val (.int p2), .val (.long (own_rank n p2)), .second, .val (.long (S + (f i))), .second, .val (.int (Int32.ofNat i))]) rfl k) ?_
      show Go p.tables e below s _ _ _ (T5.setTop (mkF m 48 #[.val (.ref a1), .val (.int p2), .val (.long (own_rank n p2)), .second, .val (.long (S + (f i))), .second, .val (.int (Int32.ofNat i))] []))
      refine Go.on (fun t k => XS.lload X5.here hx rfl (hb hby d10_48) rfl k) ?_
      show Go p.tables e below s _ _ _ (T5.setTop (mkF m 50 #[.val (.ref a1), .val (.int p2), .val (.long (own_rank n p2)), .second, .val (.long (S + (f i))), .second, .val (.int (Int32.ofNat i))] [(.long (S + (f i)))]))
      refine Go.on (fun t k => XS.lloadN X5.here hx rfl (hb hby d10_50) rfl k) ?_
      show Go p.tables e below s _ _ _ (T5.setTop (mkF m 51 #[.val (.ref a1), .val (.int p2), .val (.long (own_rank n p2)), .second, .val (.long (S + (f i))), .second, .val (.int (Int32.ofNat i))] [(.long (own_rank n p2)), (.long (S + (f i)))]))
      refine Go.on (fun t k => XS.lcmp X5.here hx rfl (hb hby d10_51) rfl k) ?_
      show Go p.tables e below s _ _ _ (T5.setTop (mkF m 52 #[.val (.ref a1), .val (.int p2), .val (.long (own_rank n p2)), .second, .val (.long (S + (f i))), .second, .val (.int (Int32.ofNat i))] [(.int (lcmpW (S + (f i)) (own_rank n p2)))]))
      unfold own_scan at hS
      by_cases hq : S + f i < own_rank n p2
      · rw [if_pos hq] at hS
        refine Go.on (fun t k => XS.ifYes X5.here hx rfl (pc0 := 52) (pc' := 61) rfl (hb hby d10_52) rfl ((if0 _ _).trans (tlt ((lw_lt _ _).mpr hq)).1) (by decide) (by decide) k) ?_
        show Go p.tables e below s _ _ _ (T5.setTop (mkF m 61 #[.val (.ref a1), .val (.int p2), .val (.long (own_rank n p2)), .second, .val (.long (S + (f i))), .second, .val (.int (Int32.ofNat i))] []))
        refine Go.on (fun t k => XS.iinc X5.here hx rfl (hb hby d10_61) rfl (l' := #[.val (.ref a1), .val (.int p2), .val (.long (own_rank n p2)), .second, .val (.long (S + (f i))), .second, .val (.int ((Int32.ofNat i) + (1 : Int32)))]) rfl k) ?_
        show Go p.tables e below s _ _ _ (T5.setTop (mkF m 64 #[.val (.ref a1), .val (.int p2), .val (.long (own_rank n p2)), .second, .val (.long (S + (f i))), .second, .val (.int ((Int32.ofNat i) + (1 : Int32)))] []))
        rw [show Int32.ofNat i + (1 : Int32) = Int32.ofNat (i + 1) from own_add i 1]
        show Go p.tables e below s _ _ _ (T5.setTop (mkF m 64 #[.val (.ref a1), .val (.int p2), .val (.long (own_rank n p2)), .second, .val (.long (S + (f i))), .second, .val (.int (Int32.ofNat (i + 1)))] []))
        refine Go.on (fun t k => XS.goto X5.here hx rfl (pc0 := 64) (pc' := 26) rfl (hb hby d10_64) (by decide) (by decide) k) ?_
        show Go p.tables e below s _ _ _ (T5.setTop (mkF m 26 #[.val (.ref a1), .val (.int p2), .val (.long (own_rank n p2)), .second, .val (.long (S + (f i))), .second, .val (.int (Int32.ofNat (i + 1)))] []))
        exact ih (i + 1) (S + f i) T5 _ X5 e5 NL (by omega) hS
      · rw [if_neg hq] at hS
        refine Go.on (fun t k => XS.ifNo X5.here hx rfl (hb hby d10_52) rfl ((if0 _ _).trans (flt (fun q => hq ((lw_lt _ _).mp q))).1) k) ?_
        show Go p.tables e below s _ _ _ (T5.setTop (mkF m 55 #[.val (.ref a1), .val (.int p2), .val (.long (own_rank n p2)), .second, .val (.long (S + (f i))), .second, .val (.int (Int32.ofNat i))] []))
        refine Go.on (fun t k => XS.iload X5.here hx rfl (hb hby d10_55) rfl k) ?_
        show Go p.tables e below s _ _ _ (T5.setTop (mkF m 57 #[.val (.ref a1), .val (.int p2), .val (.long (own_rank n p2)), .second, .val (.long (S + (f i))), .second, .val (.int (Int32.ofNat i))] [(.int (Int32.ofNat i))]))
        obtain ⟨_, _, ⟨T7, L7, k7, n7⟩, -, X7, ⟨Lc7, hQ7, l7, y7, z7⟩, st7⟩ := Jvm.LawKit.callS X5 hx (y := (⟨"com/example/loomport/loomport/loadgen/Latencies", "lowest", "(I)J"⟩ : MethodName)) hown (mvT hZ (hw _ (List.mem_of_getElem? (i := 52) rfl))) (mvT hZ (hw _ (List.mem_of_getElem? (i := 53) rfl))) (mvT hZ (hw _ (List.mem_of_getElem? (i := 3) rfl))) (mvT hZ (hw _ (List.mem_of_getElem? (i := 54) rfl))) (by decide) (backOf (W := 0) (rm11 l Z a0 hw [] (Int32.ofNat i) h0 n0 Z0 ) hZ (hw _ (List.mem_of_getElem? (i := 54) rfl)) (hw _ (List.mem_of_getElem? (i := 3) rfl)) (by decide) (by decide)) (g := (mkF m 57 #[.val (.ref a1), .val (.int p2), .val (.long (own_rank n p2)), .second, .val (.long (S + (f i))), .second, .val (.int (Int32.ofNat i))] [(.int (Int32.ofNat i))])) rfl (by rw [hml]; rfl) (argsL := [(.int (Int32.ofNat i))]) (rest := []) (lenOf pd__40_I_41_J rfl) rfl (by show 2 * 0 + _ ≤ _; exact Nat.le_of_eq rfl) (hb hby d10_57) (fun _ _ => ⟨rfl, e5, (by decide : 0 + 0 ≤ _), (by decide : 0 + 0 ≤ _)⟩)
        dsimp only [Pt.U, Pt.locs, Pt.cells, Pt.slots] at X7 l7 y7 z7 st7 hQ7
        subst l7 y7 z7
        obtain ⟨rfl, Nq7, e7⟩ := hQ7
        have Np8 := Fr.app NL Nq7
        refine Go.on st7 ?_
        show Go p.tables e below s _ _ _ (T7.setTop (mkF m 60 #[.val (.ref a1), .val (.int p2), .val (.long (own_rank n p2)), .second, .val (.long (S + (f i))), .second, .val (.int (Int32.ofNat i))] [(.long (own_low (Int32.ofNat i)))]))
        refine Go.retJ X7 hx hlk Bd.returns (hb hby d10_60) (by decide) (by decide) e7 ?_
        exact ⟨(by rw [← hS]), Np8, rfl⟩
  refine Go.on (fun t k => XS.lconst X0.here hx rfl (hb hby d10_0) k) ?_
  show Go p.tables e below s _ _ _ (s₁.setTop (mkF m 1 #[.val (.ref a1), .val (.int p2), .unset, .unset, .unset, .unset, .unset] [(.long (1 : Int64))]))
  refine Go.on (fun t k => XS.aloadN X0.here hx rfl (hb hby d10_1) rfl rfl k) ?_
  show Go p.tables e below s _ _ _ (s₁.setTop (mkF m 2 #[.val (.ref a1), .val (.int p2), .unset, .unset, .unset, .unset, .unset] [(.ref a1), (.long (1 : Int64))]))
  obtain ⟨T9, X9, e9, st9⟩ := getF X0 hx hZ hown (host := "") (Or.inl (hw _ (List.mem_of_getElem? (i := 38) rfl))) Via.refl e0 F_count_a1 (g := (mkF m 2 #[.val (.ref a1), .val (.int p2), .unset, .unset, .unset, .unset, .unset] [(.ref a1), (.long (1 : Int64))])) rfl rfl (hb hby d10_2)
  refine Go.on st9 ?_
  show Go p.tables e below s _ _ _ (T9.setTop (mkF m 5 #[.val (.ref a1), .val (.int p2), .unset, .unset, .unset, .unset, .unset] [(.long n), (.long (1 : Int64))]))
  refine Go.on (fun t k => XS.iloadN X9.here hx rfl (hb hby d10_5) rfl k) ?_
  show Go p.tables e below s _ _ _ (T9.setTop (mkF m 6 #[.val (.ref a1), .val (.int p2), .unset, .unset, .unset, .unset, .unset] [(.int p2), (.long n), (.long (1 : Int64))]))
  refine Go.on (fun t k => XS.i2l X9.here hx rfl (hb hby d10_6) rfl k) ?_
  show Go p.tables e below s _ _ _ (T9.setTop (mkF m 7 #[.val (.ref a1), .val (.int p2), .unset, .unset, .unset, .unset, .unset] [(.long (p2.toInt64)), (.long n), (.long (1 : Int64))]))
  refine Go.on (fun t k => XS.lmul X9.here hx rfl (hb hby d10_7) rfl k) ?_
  show Go p.tables e below s _ _ _ (T9.setTop (mkF m 8 #[.val (.ref a1), .val (.int p2), .unset, .unset, .unset, .unset, .unset] [(.long (n * (p2.toInt64))), (.long (1 : Int64))]))
  refine Go.on (fun t k => X9.ldc2Long hx hown (mvT hZ (hw _ (List.mem_of_getElem? (i := 50) rfl))) (g := (mkF m 8 #[.val (.ref a1), .val (.int p2), .unset, .unset, .unset, .unset, .unset] [(.long (n * (p2.toInt64))), (.long (1 : Int64))])) rfl (hb hby d10_8) t k) ?_
  show Go p.tables e below s _ _ _ (T9.setTop (mkF m 11 #[.val (.ref a1), .val (.int p2), .unset, .unset, .unset, .unset, .unset] [(.long (99 : Int64)), (.long (n * (p2.toInt64))), (.long (1 : Int64))]))
  refine Go.on (fun t k => XS.ladd X9.here hx rfl (hb hby d10_11) rfl k) ?_
  show Go p.tables e below s _ _ _ (T9.setTop (mkF m 12 #[.val (.ref a1), .val (.int p2), .unset, .unset, .unset, .unset, .unset] [(.long ((n * (p2.toInt64)) + (99 : Int64))), (.long (1 : Int64))]))
  refine Go.on (fun t k => X9.ldc2Long hx hown (mvT hZ (hw _ (List.mem_of_getElem? (i := 51) rfl))) (g := (mkF m 12 #[.val (.ref a1), .val (.int p2), .unset, .unset, .unset, .unset, .unset] [(.long ((n * (p2.toInt64)) + (99 : Int64))), (.long (1 : Int64))])) rfl (hb hby d10_12) t k) ?_
  show Go p.tables e below s _ _ _ (T9.setTop (mkF m 15 #[.val (.ref a1), .val (.int p2), .unset, .unset, .unset, .unset, .unset] [(.long (100 : Int64)), (.long ((n * (p2.toInt64)) + (99 : Int64))), (.long (1 : Int64))]))
  refine Go.on (fun t k => XS.ldiv X9.here hx rfl (hb hby d10_15) rfl (by decide) k) ?_
  show Go p.tables e below s _ _ _ (T9.setTop (mkF m 16 #[.val (.ref a1), .val (.int p2), .unset, .unset, .unset, .unset, .unset] [(.long (((n * (p2.toInt64)) + (99 : Int64)) / (100 : Int64))), (.long (1 : Int64))]))
  obtain ⟨_, _, ⟨T10, L10, k10, n10⟩, -, X10, ⟨Lc10, hQ10, l10, y10, z10⟩, st10⟩ := Jvm.LawKit.callS X9 hx (y := (⟨"java/lang/Math", "max", "(JJ)J"⟩ : MethodName)) hown (mvT hZ (hw _ (List.mem_of_getElem? (i := 31) rfl))) (mvT hZ (hw _ (List.mem_of_getElem? (i := 32) rfl))) (mvT hZ (hw _ (List.mem_of_getElem? (i := 33) rfl))) (mvT hZ (hw _ (List.mem_of_getElem? (i := 34) rfl))) (by decide) (backOf (W := 0) (rm7 l Z a0 hw [] (1 : Int64) (((n * (p2.toInt64)) + (99 : Int64)) / (100 : Int64)) h0 n0 Z0 ) hZ (hw _ (List.mem_of_getElem? (i := 34) rfl)) (hw _ (List.mem_of_getElem? (i := 33) rfl)) (by decide) (by decide)) (g := (mkF m 16 #[.val (.ref a1), .val (.int p2), .unset, .unset, .unset, .unset, .unset] [(.long (((n * (p2.toInt64)) + (99 : Int64)) / (100 : Int64))), (.long (1 : Int64))])) rfl (by rw [hml]; rfl) (argsL := [(.long (1 : Int64)), (.long (((n * (p2.toInt64)) + (99 : Int64)) / (100 : Int64)))]) (rest := []) (lenOf pd__40_JJ_41_J rfl) rfl (by show 2 * 0 + _ ≤ _; exact Nat.le_of_eq rfl) (hb hby d10_16) (fun _ _ => ⟨rfl, e9, (by decide : 0 + 0 ≤ _), (by decide : 0 + 0 ≤ _)⟩)
  dsimp only [Pt.U, Pt.locs, Pt.cells, Pt.slots] at X10 l10 y10 z10 st10 hQ10
  subst l10 y10 z10
  obtain ⟨rfl, Nq10, e10⟩ := hQ10
  have Np11 := Fr.app N0 Nq10
  refine Go.on st10 ?_
  show Go p.tables e below s _ _ _ (T10.setTop (mkF m 19 #[.val (.ref a1), .val (.int p2), .unset, .unset, .unset, .unset, .unset] [(.long (own_maxL (1 : Int64) (((n * (p2.toInt64)) + (99 : Int64)) / (100 : Int64))))]))
  refine Go.on (fun t k => XS.lstoreN X10.here hx rfl (hb hby d10_19) rfl (l' := #[.val (.ref a1), .val (.int p2), .val (.long (own_maxL (1 : Int64) (((n * (p2.toInt64)) + (99 : Int64)) / (100 : Int64)))), .second, .unset, .unset, .unset]) rfl k) ?_
  show Go p.tables e below s _ _ _ (T10.setTop (mkF m 20 #[.val (.ref a1), .val (.int p2), .val (.long (own_maxL (1 : Int64) (((n * (p2.toInt64)) + (99 : Int64)) / (100 : Int64)))), .second, .unset, .unset, .unset] []))
  refine Go.on (fun t k => XS.lconst X10.here hx rfl (hb hby d10_20) k) ?_
  show Go p.tables e below s _ _ _ (T10.setTop (mkF m 21 #[.val (.ref a1), .val (.int p2), .val (.long (own_maxL (1 : Int64) (((n * (p2.toInt64)) + (99 : Int64)) / (100 : Int64)))), .second, .unset, .unset, .unset] [(.long (0 : Int64))]))
  refine Go.on (fun t k => XS.lstore X10.here hx rfl (hb hby d10_21) rfl (l' := #[.val (.ref a1), .val (.int p2), .val (.long (own_maxL (1 : Int64) (((n * (p2.toInt64)) + (99 : Int64)) / (100 : Int64)))), .second, .val (.long (0 : Int64)), .second, .unset]) rfl k) ?_
  show Go p.tables e below s _ _ _ (T10.setTop (mkF m 23 #[.val (.ref a1), .val (.int p2), .val (.long (own_maxL (1 : Int64) (((n * (p2.toInt64)) + (99 : Int64)) / (100 : Int64)))), .second, .val (.long (0 : Int64)), .second, .unset] []))
  refine Go.on (fun t k => XS.iconst X10.here hx rfl (hb hby d10_23) k) ?_
  show Go p.tables e below s _ _ _ (T10.setTop (mkF m 24 #[.val (.ref a1), .val (.int p2), .val (.long (own_maxL (1 : Int64) (((n * (p2.toInt64)) + (99 : Int64)) / (100 : Int64)))), .second, .val (.long (0 : Int64)), .second, .unset] [(.int (0 : Int32))]))
  refine Go.on (fun t k => XS.istore X10.here hx rfl (hb hby d10_24) rfl (l' := #[.val (.ref a1), .val (.int p2), .val (.long (own_maxL (1 : Int64) (((n * (p2.toInt64)) + (99 : Int64)) / (100 : Int64)))), .second, .val (.long (0 : Int64)), .second, .val (.int (0 : Int32))]) rfl k) ?_
  show Go p.tables e below s _ _ _ (T10.setTop (mkF m 26 #[.val (.ref a1), .val (.int p2), .val (.long (own_maxL (1 : Int64) (((n * (p2.toInt64)) + (99 : Int64)) / (100 : Int64)))), .second, .val (.long (0 : Int64)), .second, .val (.int (0 : Int32))] []))
  exact loop 45056 0 0 T10 _ X10 e10 Np11 (by omega) rfl
theorem ef_0 (m : MethodId) (x0 : Int64) (x1 : Int64) (x2 : Int32) : entryFrame m #[(.long x0), (.long x1), (.int x2)] maxLocals = mkF m 0 #[.val (.long x0), .second, .val (.long x1), .second, .val (.int x2), .unset, .unset, .unset, .unset] [] := by first | (simp [entryFrame, mkF, argsToLocals, Value.category, maxLocals]; done) | rfl
def Q0 (Z : State) (q1 : Int64) (q2 : Int64) (p3 : Int32) (h0 : Heap) (n0 : Nat) (v : Option Value) (h : Heap) (L : List Loc) : Prop := v = some (.int (1 : Int32)) ∧ Fr n0 L
theorem pn_com_example_loomport_loomport_loadgen_LatenciesAddAllPinLaw : plainName "com/example/loomport/loomport/loadgen/LatenciesAddAllPinLaw" = true := by first | (simp [plainName, overriddenIn]; done) | decide +kernel
set_option maxRecDepth 65536 in
set_option maxHeartbeats 40000000 in
theorem rm0 (l : Launch) (Z : State) (a0 : Array Value) (hw : ∀ d ∈ tables_1, d.before a0 Z = true) (ws : List Jvm.Cond) (q1 : Int64) (q2 : Int64) (p3 : Int32) (h0 : Heap) (n0 : Nat) (Z0 : n0 ≤ h0.size)  :
    MetFree l x (head1 (Jvm.Cond.code x code maxLocals ret :: ws) room_1) (fun a U => a = #[(.long q1), (.long q2), (.int p3)] ∧ Z.Warmed39 U.vm ∧ U.heap = h0) (fun _ _ _ _ _ => True) (fun _ U o U' => ∃ v L, o = .returned v ∧ Q0 Z q1 q2 p3 h0 n0 v U'.heap L ∧ FrameEnd U o U' L room_1.cells room_1.slots) := by
  refine MetFree.of_bodySF (plainFor_of_name pn_com_example_loomport_loomport_loadgen_LatenciesAddAllPinLaw) hisR ?_
  intro p e s m args below meth c s₁ Bd hml0 hP hK
  obtain ⟨rfl, hZ, hh⟩ := hP
  have hx := Bd.exec
  have hby := Bd.bytes
  have hlk : meth.locks = false := BodyLoose.notSynchronized Bd
  have hml : c.maxLocals = 9 := hml0
  have hown : s.vm.findClass "com/example/loomport/loomport/loadgen/LatenciesAddAllPinLaw" = some m.cls := findClass_of_methodNamed Bd.named
  have hnm := (name_of_methodNamed Bd.named Bd.method).1
  have X0 : Stand p l e room_1 s m #[(.long q1), (.long q2), (.int p3)] below meth c s₁ [] 0 0 := Stand.of_body Bd
  have e0 : s₁.heap = h0 := by rw [← hh, Bd.state]; rfl
  have N0 := Fr.nil n0
  show Go p.tables e below s (Q0 Z q1 q2 p3 h0 n0) room_1.cells room_1.slots (s₁.setTop (entryFrame m #[(.long q1), (.long q2), (.int p3)] maxLocals))
  refine Go.on (fun t k => castTop (ef_0 m q1 q2 p3) k) ?_
  show Go p.tables e below s _ _ _ (s₁.setTop (mkF m 0 #[.val (.long q1), .second, .val (.long q2), .second, .val (.int p3), .unset, .unset, .unset, .unset] []))
  refine Go.on (fun t k => XS.iconst X0.here hx rfl (hb hby at_0) k) ?_
  show Go p.tables e below s _ _ _ (s₁.setTop (mkF m 1 #[.val (.long q1), .second, .val (.long q2), .second, .val (.int p3), .unset, .unset, .unset, .unset] [(.int (1 : Int32))]))
  refine Go.on (fun t k => XS.iload X0.here hx rfl (hb hby at_1) rfl k) ?_
  show Go p.tables e below s _ _ _ (s₁.setTop (mkF m 3 #[.val (.long q1), .second, .val (.long q2), .second, .val (.int p3), .unset, .unset, .unset, .unset] [(.int p3), (.int (1 : Int32))]))
  refine Go.on (fun t k => X0.ldcInt hx hown (mvT hZ (hw _ (List.mem_of_getElem? (i := 0) rfl))) (g := (mkF m 3 #[.val (.long q1), .second, .val (.long q2), .second, .val (.int p3), .unset, .unset, .unset, .unset] [(.int p3), (.int (1 : Int32))])) rfl (hb hby at_3) t k) ?_
  show Go p.tables e below s _ _ _ (s₁.setTop (mkF m 5 #[.val (.long q1), .second, .val (.long q2), .second, .val (.int p3), .unset, .unset, .unset, .unset] [(.int (2147483647 : Int32)), (.int p3), (.int (1 : Int32))]))
  refine Go.on (fun t k => XS.iand X0.here hx rfl (hb hby at_5) rfl k) ?_
  show Go p.tables e below s _ _ _ (s₁.setTop (mkF m 6 #[.val (.long q1), .second, .val (.long q2), .second, .val (.int p3), .unset, .unset, .unset, .unset] [(.int (p3 &&& (2147483647 : Int32))), (.int (1 : Int32))]))
  refine Go.on (fun t k => XS.bipush X0.here hx rfl (hb hby at_6) k) ?_
  show Go p.tables e below s _ _ _ (s₁.setTop (mkF m 8 #[.val (.long q1), .second, .val (.long q2), .second, .val (.int p3), .unset, .unset, .unset, .unset] [(.int (100 : Int32)), (.int (p3 &&& (2147483647 : Int32))), (.int (1 : Int32))]))
  refine Go.on (fun t k => Jvm.RoadKit.iremM X0 hx rfl (hb hby at_8) rfl (by decide) k) ?_
  show Go p.tables e below s _ _ _ (s₁.setTop (mkF m 9 #[.val (.long q1), .second, .val (.long q2), .second, .val (.int p3), .unset, .unset, .unset, .unset] [(.int ((p3 &&& (2147483647 : Int32)) % (100 : Int32))), (.int (1 : Int32))]))
  refine Go.on (fun t k => XS.iadd X0.here hx rfl (hb hby at_9) rfl k) ?_
  show Go p.tables e below s _ _ _ (s₁.setTop (mkF m 10 #[.val (.long q1), .second, .val (.long q2), .second, .val (.int p3), .unset, .unset, .unset, .unset] [(.int ((1 : Int32) + ((p3 &&& (2147483647 : Int32)) % (100 : Int32))))]))
  obtain ⟨pp, hpp⟩ : ∃ z, z = ((1 : Int32) + ((p3 &&& (2147483647 : Int32)) % (100 : Int32))) := ⟨_, rfl⟩
  rw [← hpp]
  refine Go.on (fun t k => XS.istore X0.here hx rfl (hb hby at_10) rfl (l' := #[.val (.long q1), .second, .val (.long q2), .second, .val (.int p3), .val (.int pp), .unset, .unset, .unset]) rfl k) ?_
  show Go p.tables e below s _ _ _ (s₁.setTop (mkF m 12 #[.val (.long q1), .second, .val (.long q2), .second, .val (.int p3), .val (.int pp), .unset, .unset, .unset] []))
  obtain ⟨T1, h1, X1, e1, E1, A1, D1, -, st1⟩ := newO X0 hx hZ hown (hw _ (List.mem_of_getElem? (i := 1) rfl)) (hw _ (List.mem_of_getElem? (i := 2) rfl)) (hw _ (List.mem_of_getElem? (i := 3) rfl)) e0 (g := (mkF m 12 #[.val (.long q1), .second, .val (.long q2), .second, .val (.int p3), .val (.int pp), .unset, .unset, .unset] [])) rfl (hb hby at_12) (by decide) (by decide)
  obtain ⟨b1, g1⟩ : ∃ z, z = h0.size := ⟨_, rfl⟩
  rw [← g1] at A1 D1 st1
  have ge2 : n0 ≤ b1 := Nat.le_trans Z0 (Nat.le_of_eq g1.symm)
  have Zp4 := Nat.le_trans Z0 E1.1
  have Fcounts_5 : Fld Z h1 b1 "com/example/loomport/loomport/loadgen/Latencies" "counts" "[J" .null := D1 (Or.inr (hw _ (List.mem_of_getElem? (i := 25) rfl))) (ty := (.array .long)) (by decide)
  have Fcount_6 : Fld Z h1 b1 "com/example/loomport/loomport/loadgen/Latencies" "count" "J" (.long (0 : Int64)) := D1 (Or.inl (hw _ (List.mem_of_getElem? (i := 39) rfl))) (ty := .long) (by decide)
  refine Go.on st1 ?_
  show Go p.tables e below s _ _ _ (T1.setTop (mkF m 15 #[.val (.long q1), .second, .val (.long q2), .second, .val (.int p3), .val (.int pp), .unset, .unset, .unset] [(.ref b1)]))
  refine Go.on (fun t k => XS.dup X1.here hx rfl (hb hby at_15) rfl rfl k) ?_
  show Go p.tables e below s _ _ _ (T1.setTop (mkF m 16 #[.val (.long q1), .second, .val (.long q2), .second, .val (.int p3), .val (.int pp), .unset, .unset, .unset] [(.ref b1), (.ref b1)]))
  obtain ⟨_, _, ⟨T7, L7, k7, n7⟩, -, X7, ⟨Lc7, hQ7, l7, y7, z7⟩, st7⟩ := X1.specialBack hx (y := (⟨"com/example/loomport/loomport/loadgen/Latencies", "<init>", "()V"⟩ : MethodName)) rfl hown (mvT hZ (hw _ (List.mem_of_getElem? (i := 4) rfl))) (mvT hZ (hw _ (List.mem_of_getElem? (i := 5) rfl))) (mvT hZ (hw _ (List.mem_of_getElem? (i := 6) rfl))) (by decide) (backOf (W := 1) (rm1 l Z a0 hw [] b1 .null (.long (0 : Int64)) h1 n0 Zp4 A1 ge2 Fcounts_5 Fcount_6) hZ (hw _ (List.mem_of_getElem? (i := 6) rfl)) (hw _ (List.mem_of_getElem? (i := 3) rfl)) (by decide) (by decide)) (g := (mkF m 16 #[.val (.long q1), .second, .val (.long q2), .second, .val (.int p3), .val (.int pp), .unset, .unset, .unset] [(.ref b1), (.ref b1)])) rfl (by rw [hml]; rfl) (Steps.refl _) (a := b1) (argsL := []) (rest := [(.ref b1)]) (lenOf pd__40__41_V rfl) rfl (by show 2 * 0 + _ ≤ _; exact Nat.le_of_eq rfl) (hb hby at_16) (fun _ _ => ⟨rfl, e1, (by decide : (0 + 1) + 1 ≤ _), (by decide : (0 + 2) + 45056 ≤ _)⟩)
  dsimp only [Pt.U, Pt.locs, Pt.cells, Pt.slots] at X7 l7 y7 z7 st7 hQ7
  subst l7 y7 z7
  obtain ⟨cc7, rfl, Nq7, Kq7, P7_0, P7_1, P7_2, P7_3, P7_4⟩ := hQ7
  have A1_8 := A1.keep Kq7
  have Zp9 := Nat.le_trans Zp4 Kq7.1
  have ne10 : b1 ≠ cc7 := Nat.ne_of_lt (Nat.lt_of_lt_of_le Fcount_6.lt P7_1)
  have Np11 := Fr.app N0 Nq7
  refine Go.via st7 ?_
  show Go p.tables e below s _ _ _ (T7.setTop (mkF m 19 #[.val (.long q1), .second, .val (.long q2), .second, .val (.int p3), .val (.int pp), .unset, .unset, .unset] [(.ref b1)]))
  refine Go.on (fun t k => XS.astore X7.here hx rfl (hb hby at_19) rfl rfl (l' := #[.val (.long q1), .second, .val (.long q2), .second, .val (.int p3), .val (.int pp), .val (.ref b1), .unset, .unset]) rfl k) ?_
  show Go p.tables e below s _ _ _ (T7.setTop (mkF m 21 #[.val (.long q1), .second, .val (.long q2), .second, .val (.int p3), .val (.int pp), .val (.ref b1), .unset, .unset] []))
  refine Go.on (fun t k => XS.aload X7.here hx rfl (hb hby at_21) rfl rfl k) ?_
  show Go p.tables e below s _ _ _ (T7.setTop (mkF m 23 #[.val (.long q1), .second, .val (.long q2), .second, .val (.int p3), .val (.int pp), .val (.ref b1), .unset, .unset] [(.ref b1)]))
  refine Go.on (fun t k => XS.lloadN X7.here hx rfl (hb hby at_23) rfl k) ?_
  show Go p.tables e below s _ _ _ (T7.setTop (mkF m 24 #[.val (.long q1), .second, .val (.long q2), .second, .val (.int p3), .val (.int pp), .val (.ref b1), .unset, .unset] [(.long q1), (.ref b1)]))
  obtain ⟨cq12, kq12, q12a, q12b, q12c⟩ := isOf hZ rfl A1_8
  obtain ⟨_, _, ⟨T12, L12, k12, n12⟩, -, X12, ⟨Lc12, hQ12, l12, y12, z12⟩, st12⟩ := X7.virtualBack hx (y := (⟨"com/example/loomport/loomport/loadgen/Latencies", "add", "(J)V"⟩ : MethodName)) (z := (⟨"com/example/loomport/loomport/loadgen/Latencies", "add", "(J)V"⟩ : MethodName)) hown (mvT hZ (hw _ (List.mem_of_getElem? (i := 26) rfl))) (mvT hZ (hw _ (List.mem_of_getElem? (i := 27) rfl))) (notFace_of_selects (args := #[]) (mvT hZ (hw _ (List.mem_of_getElem? (i := 29) rfl)))) (mvT hZ (hw _ (List.mem_of_getElem? (i := 29) rfl))) (mvT hZ (hw _ (List.mem_of_getElem? (i := 28) rfl))) (by decide) (backOf (W := 0) (rm6 l Z a0 hw [] b1 q1 cc7 (0 : Int64) (fun _ => 0) T7.heap n0 Zp9 A1_8 ge2 P7_0 ne10 P7_2 P7_3 P7_4) hZ (hw _ (List.mem_of_getElem? (i := 30) rfl)) (hw _ (List.mem_of_getElem? (i := 3) rfl)) (by decide) (by decide)) q12a q12c (g := (mkF m 24 #[.val (.long q1), .second, .val (.long q2), .second, .val (.int p3), .val (.int pp), .val (.ref b1), .unset, .unset] [(.long q1), (.ref b1)])) rfl (by rw [hml]; rfl) (Steps.refl _) (argsL := [(.long q1)]) (rest := []) (lenOf pd__40_J_41_V rfl) rfl (by show 2 * 0 + _ ≤ _; exact Nat.le_of_eq rfl) (hb hby at_24) (fun _ _ => ⟨rfl, rfl, (by decide : ((0 + 1) + 1) + 0 ≤ _), (by decide : ((0 + 2) + 45056) + 0 ≤ _)⟩)
  dsimp only [Pt.U, Pt.locs, Pt.cells, Pt.slots] at X12 l12 y12 z12 st12 hQ12
  subst l12 y12 z12
  obtain ⟨rfl, Nq12, Kq12, P12_0, P12_1, P12_2⟩ := hQ12
  have A1_13 := A1_8.keep Kq12
  have Zp14 := Nat.le_trans Zp9 Kq12.1
  have Np15 := Fr.app Np11 Nq12
  refine Go.via st12 ?_
  show Go p.tables e below s _ _ _ (T12.setTop (mkF m 27 #[.val (.long q1), .second, .val (.long q2), .second, .val (.int p3), .val (.int pp), .val (.ref b1), .unset, .unset] []))
  obtain ⟨T16, h16, X16, e16, E16, A16, D16, -, st16⟩ := newO X12 hx hZ hown (hw _ (List.mem_of_getElem? (i := 1) rfl)) (hw _ (List.mem_of_getElem? (i := 2) rfl)) (hw _ (List.mem_of_getElem? (i := 3) rfl)) rfl (g := (mkF m 27 #[.val (.long q1), .second, .val (.long q2), .second, .val (.int p3), .val (.int pp), .val (.ref b1), .unset, .unset] [])) rfl (hb hby at_27) (by decide) (by decide)
  obtain ⟨b16, g16⟩ : ∃ z, z = T12.heap.size := ⟨_, rfl⟩
  rw [← g16] at A16 D16 st16
  have ne17 : b1 ≠ b16 := Nat.ne_of_lt (Nat.lt_of_lt_of_eq A1_13.lt g16.symm)
  have ne18 : cc7 ≠ b16 := Nat.ne_of_lt (Nat.lt_of_lt_of_eq P12_2.lt g16.symm)
  have ge19 : n0 ≤ b16 := Nat.le_trans Zp14 (Nat.le_of_eq g16.symm)
  have A1_21 := A1_13.ext E16
  have P12_22 := P12_0.ext E16
  have P12_23 := P12_1.ext E16
  have P12_24 := P12_2.ext E16
  have Zp25 := Nat.le_trans Zp14 E16.1
  have Fcounts_26 : Fld Z h16 b16 "com/example/loomport/loomport/loadgen/Latencies" "counts" "[J" .null := D16 (Or.inr (hw _ (List.mem_of_getElem? (i := 25) rfl))) (ty := (.array .long)) (by decide)
  have Fcount_27 : Fld Z h16 b16 "com/example/loomport/loomport/loadgen/Latencies" "count" "J" (.long (0 : Int64)) := D16 (Or.inl (hw _ (List.mem_of_getElem? (i := 39) rfl))) (ty := .long) (by decide)
  refine Go.on st16 ?_
  show Go p.tables e below s _ _ _ (T16.setTop (mkF m 30 #[.val (.long q1), .second, .val (.long q2), .second, .val (.int p3), .val (.int pp), .val (.ref b1), .unset, .unset] [(.ref b16)]))
  refine Go.on (fun t k => XS.dup X16.here hx rfl (hb hby at_30) rfl rfl k) ?_
  show Go p.tables e below s _ _ _ (T16.setTop (mkF m 31 #[.val (.long q1), .second, .val (.long q2), .second, .val (.int p3), .val (.int pp), .val (.ref b1), .unset, .unset] [(.ref b16), (.ref b16)]))
  obtain ⟨_, _, ⟨T28, L28, k28, n28⟩, -, X28, ⟨Lc28, hQ28, l28, y28, z28⟩, st28⟩ := X16.specialBack hx (y := (⟨"com/example/loomport/loomport/loadgen/Latencies", "<init>", "()V"⟩ : MethodName)) rfl hown (mvT hZ (hw _ (List.mem_of_getElem? (i := 4) rfl))) (mvT hZ (hw _ (List.mem_of_getElem? (i := 5) rfl))) (mvT hZ (hw _ (List.mem_of_getElem? (i := 6) rfl))) (by decide) (backOf (W := 1) (rm1 l Z a0 hw [] b16 .null (.long (0 : Int64)) h16 n0 Zp25 A16 ge19 Fcounts_26 Fcount_27) hZ (hw _ (List.mem_of_getElem? (i := 6) rfl)) (hw _ (List.mem_of_getElem? (i := 3) rfl)) (by decide) (by decide)) (g := (mkF m 31 #[.val (.long q1), .second, .val (.long q2), .second, .val (.int p3), .val (.int pp), .val (.ref b1), .unset, .unset] [(.ref b16), (.ref b16)])) rfl (by rw [hml]; rfl) (Steps.refl _) (a := b16) (argsL := []) (rest := [(.ref b16)]) (lenOf pd__40__41_V rfl) rfl (by show 2 * 0 + _ ≤ _; exact Nat.le_of_eq rfl) (hb hby at_31) (fun _ _ => ⟨rfl, e16, (by decide : ((((0 + 1) + 1) + 0) + 1) + 1 ≤ _), (by decide : ((((0 + 2) + 45056) + 0) + 2) + 45056 ≤ _)⟩)
  dsimp only [Pt.U, Pt.locs, Pt.cells, Pt.slots] at X28 l28 y28 z28 st28 hQ28
  subst l28 y28 z28
  obtain ⟨cc28, rfl, Nq28, Kq28, P28_0, P28_1, P28_2, P28_3, P28_4⟩ := hQ28
  have A1_29 := A1_21.keep Kq28
  have P12_30 := P12_22.keep Kq28 (ninS ne17 nin0)
  have P12_31 := P12_23.keep Kq28 (ninS ne17 nin0)
  have P12_32 := P12_24.keep Kq28 (ninS ne18 nin0)
  have A16_33 := A16.keep Kq28
  have Zp34 := Nat.le_trans Zp25 Kq28.1
  have ne35 : b1 ≠ cc28 := Nat.ne_of_lt (Nat.lt_of_lt_of_le P12_23.lt P28_1)
  have ne36 : cc7 ≠ cc28 := Nat.ne_of_lt (Nat.lt_of_lt_of_le P12_24.lt P28_1)
  have ne37 : b16 ≠ cc28 := Nat.ne_of_lt (Nat.lt_of_lt_of_le Fcount_27.lt P28_1)
  have Np38 := Fr.app Np15 Nq28
  refine Go.via st28 ?_
  show Go p.tables e below s _ _ _ (T28.setTop (mkF m 34 #[.val (.long q1), .second, .val (.long q2), .second, .val (.int p3), .val (.int pp), .val (.ref b1), .unset, .unset] [(.ref b16)]))
  refine Go.on (fun t k => XS.astore X28.here hx rfl (hb hby at_34) rfl rfl (l' := #[.val (.long q1), .second, .val (.long q2), .second, .val (.int p3), .val (.int pp), .val (.ref b1), .val (.ref b16), .unset]) rfl k) ?_
  show Go p.tables e below s _ _ _ (T28.setTop (mkF m 36 #[.val (.long q1), .second, .val (.long q2), .second, .val (.int p3), .val (.int pp), .val (.ref b1), .val (.ref b16), .unset] []))
  refine Go.on (fun t k => XS.aload X28.here hx rfl (hb hby at_36) rfl rfl k) ?_
  show Go p.tables e below s _ _ _ (T28.setTop (mkF m 38 #[.val (.long q1), .second, .val (.long q2), .second, .val (.int p3), .val (.int pp), .val (.ref b1), .val (.ref b16), .unset] [(.ref b16)]))
  refine Go.on (fun t k => XS.lloadN X28.here hx rfl (hb hby at_38) rfl k) ?_
  show Go p.tables e below s _ _ _ (T28.setTop (mkF m 39 #[.val (.long q1), .second, .val (.long q2), .second, .val (.int p3), .val (.int pp), .val (.ref b1), .val (.ref b16), .unset] [(.long q2), (.ref b16)]))
  obtain ⟨cq39, kq39, q39a, q39b, q39c⟩ := isOf hZ rfl A16_33
  obtain ⟨_, _, ⟨T39, L39, k39, n39⟩, -, X39, ⟨Lc39, hQ39, l39, y39, z39⟩, st39⟩ := X28.virtualBack hx (y := (⟨"com/example/loomport/loomport/loadgen/Latencies", "add", "(J)V"⟩ : MethodName)) (z := (⟨"com/example/loomport/loomport/loadgen/Latencies", "add", "(J)V"⟩ : MethodName)) hown (mvT hZ (hw _ (List.mem_of_getElem? (i := 26) rfl))) (mvT hZ (hw _ (List.mem_of_getElem? (i := 27) rfl))) (notFace_of_selects (args := #[]) (mvT hZ (hw _ (List.mem_of_getElem? (i := 29) rfl)))) (mvT hZ (hw _ (List.mem_of_getElem? (i := 29) rfl))) (mvT hZ (hw _ (List.mem_of_getElem? (i := 28) rfl))) (by decide) (backOf (W := 0) (rm6 l Z a0 hw [] b16 q2 cc28 (0 : Int64) (fun _ => 0) T28.heap n0 Zp34 A16_33 ge19 P28_0 ne37 P28_2 P28_3 P28_4) hZ (hw _ (List.mem_of_getElem? (i := 30) rfl)) (hw _ (List.mem_of_getElem? (i := 3) rfl)) (by decide) (by decide)) q39a q39c (g := (mkF m 39 #[.val (.long q1), .second, .val (.long q2), .second, .val (.int p3), .val (.int pp), .val (.ref b1), .val (.ref b16), .unset] [(.long q2), (.ref b16)])) rfl (by rw [hml]; rfl) (Steps.refl _) (argsL := [(.long q2)]) (rest := []) (lenOf pd__40_J_41_V rfl) rfl (by show 2 * 0 + _ ≤ _; exact Nat.le_of_eq rfl) (hb hby at_39) (fun _ _ => ⟨rfl, rfl, (by decide : (((((0 + 1) + 1) + 0) + 1) + 1) + 0 ≤ _), (by decide : (((((0 + 2) + 45056) + 0) + 2) + 45056) + 0 ≤ _)⟩)
  dsimp only [Pt.U, Pt.locs, Pt.cells, Pt.slots] at X39 l39 y39 z39 st39 hQ39
  subst l39 y39 z39
  obtain ⟨rfl, Nq39, Kq39, P39_0, P39_1, P39_2⟩ := hQ39
  have A1_40 := A1_29.keep Kq39
  have P12_41 := P12_30.keep Kq39 (ninS ne17 (ninS ne35 nin0))
  have P12_42 := P12_31.keep Kq39 (ninS ne17 (ninS ne35 nin0))
  have P12_43 := P12_32.keep Kq39 (ninS ne18 (ninS ne36 nin0))
  have A16_44 := A16_33.keep Kq39
  have Zp45 := Nat.le_trans Zp34 Kq39.1
  have Np46 := Fr.app Np38 Nq39
  refine Go.via st39 ?_
  show Go p.tables e below s _ _ _ (T39.setTop (mkF m 42 #[.val (.long q1), .second, .val (.long q2), .second, .val (.int p3), .val (.int pp), .val (.ref b1), .val (.ref b16), .unset] []))
  obtain ⟨T47, h47, X47, e47, E47, A47, D47, -, st47⟩ := newO X39 hx hZ hown (hw _ (List.mem_of_getElem? (i := 1) rfl)) (hw _ (List.mem_of_getElem? (i := 2) rfl)) (hw _ (List.mem_of_getElem? (i := 3) rfl)) rfl (g := (mkF m 42 #[.val (.long q1), .second, .val (.long q2), .second, .val (.int p3), .val (.int pp), .val (.ref b1), .val (.ref b16), .unset] [])) rfl (hb hby at_42) (by decide) (by decide)
  obtain ⟨b47, g47⟩ : ∃ z, z = T39.heap.size := ⟨_, rfl⟩
  rw [← g47] at A47 D47 st47
  have ne48 : b1 ≠ b47 := Nat.ne_of_lt (Nat.lt_of_lt_of_eq A1_40.lt g47.symm)
  have ne49 : cc7 ≠ b47 := Nat.ne_of_lt (Nat.lt_of_lt_of_eq P12_43.lt g47.symm)
  have ne50 : b16 ≠ b47 := Nat.ne_of_lt (Nat.lt_of_lt_of_eq A16_44.lt g47.symm)
  have ne51 : cc28 ≠ b47 := Nat.ne_of_lt (Nat.lt_of_lt_of_eq P39_2.lt g47.symm)
  have ge52 : n0 ≤ b47 := Nat.le_trans Zp45 (Nat.le_of_eq g47.symm)
  have A1_54 := A1_40.ext E47
  have P12_55 := P12_41.ext E47
  have P12_56 := P12_42.ext E47
  have P12_57 := P12_43.ext E47
  have A16_58 := A16_44.ext E47
  have P39_59 := P39_0.ext E47
  have P39_60 := P39_1.ext E47
  have P39_61 := P39_2.ext E47
  have Zp62 := Nat.le_trans Zp45 E47.1
  have Fcounts_63 : Fld Z h47 b47 "com/example/loomport/loomport/loadgen/Latencies" "counts" "[J" .null := D47 (Or.inr (hw _ (List.mem_of_getElem? (i := 25) rfl))) (ty := (.array .long)) (by decide)
  have Fcount_64 : Fld Z h47 b47 "com/example/loomport/loomport/loadgen/Latencies" "count" "J" (.long (0 : Int64)) := D47 (Or.inl (hw _ (List.mem_of_getElem? (i := 39) rfl))) (ty := .long) (by decide)
  refine Go.on st47 ?_
  show Go p.tables e below s _ _ _ (T47.setTop (mkF m 45 #[.val (.long q1), .second, .val (.long q2), .second, .val (.int p3), .val (.int pp), .val (.ref b1), .val (.ref b16), .unset] [(.ref b47)]))
  refine Go.on (fun t k => XS.dup X47.here hx rfl (hb hby at_45) rfl rfl k) ?_
  show Go p.tables e below s _ _ _ (T47.setTop (mkF m 46 #[.val (.long q1), .second, .val (.long q2), .second, .val (.int p3), .val (.int pp), .val (.ref b1), .val (.ref b16), .unset] [(.ref b47), (.ref b47)]))
  obtain ⟨_, _, ⟨T65, L65, k65, n65⟩, -, X65, ⟨Lc65, hQ65, l65, y65, z65⟩, st65⟩ := X47.specialBack hx (y := (⟨"com/example/loomport/loomport/loadgen/Latencies", "<init>", "()V"⟩ : MethodName)) rfl hown (mvT hZ (hw _ (List.mem_of_getElem? (i := 4) rfl))) (mvT hZ (hw _ (List.mem_of_getElem? (i := 5) rfl))) (mvT hZ (hw _ (List.mem_of_getElem? (i := 6) rfl))) (by decide) (backOf (W := 1) (rm1 l Z a0 hw [] b47 .null (.long (0 : Int64)) h47 n0 Zp62 A47 ge52 Fcounts_63 Fcount_64) hZ (hw _ (List.mem_of_getElem? (i := 6) rfl)) (hw _ (List.mem_of_getElem? (i := 3) rfl)) (by decide) (by decide)) (g := (mkF m 46 #[.val (.long q1), .second, .val (.long q2), .second, .val (.int p3), .val (.int pp), .val (.ref b1), .val (.ref b16), .unset] [(.ref b47), (.ref b47)])) rfl (by rw [hml]; rfl) (Steps.refl _) (a := b47) (argsL := []) (rest := [(.ref b47)]) (lenOf pd__40__41_V rfl) rfl (by show 2 * 0 + _ ≤ _; exact Nat.le_of_eq rfl) (hb hby at_46) (fun _ _ => ⟨rfl, e47, (by decide : (((((((0 + 1) + 1) + 0) + 1) + 1) + 0) + 1) + 1 ≤ _), (by decide : (((((((0 + 2) + 45056) + 0) + 2) + 45056) + 0) + 2) + 45056 ≤ _)⟩)
  dsimp only [Pt.U, Pt.locs, Pt.cells, Pt.slots] at X65 l65 y65 z65 st65 hQ65
  subst l65 y65 z65
  obtain ⟨cc65, rfl, Nq65, Kq65, P65_0, P65_1, P65_2, P65_3, P65_4⟩ := hQ65
  have A1_66 := A1_54.keep Kq65
  have P12_67 := P12_55.keep Kq65 (ninS ne48 nin0)
  have P12_68 := P12_56.keep Kq65 (ninS ne48 nin0)
  have P12_69 := P12_57.keep Kq65 (ninS ne49 nin0)
  have A16_70 := A16_58.keep Kq65
  have P39_71 := P39_59.keep Kq65 (ninS ne50 nin0)
  have P39_72 := P39_60.keep Kq65 (ninS ne50 nin0)
  have P39_73 := P39_61.keep Kq65 (ninS ne51 nin0)
  have A47_74 := A47.keep Kq65
  have Zp75 := Nat.le_trans Zp62 Kq65.1
  have ne76 : b1 ≠ cc65 := Nat.ne_of_lt (Nat.lt_of_lt_of_le P12_56.lt P65_1)
  have ne77 : cc7 ≠ cc65 := Nat.ne_of_lt (Nat.lt_of_lt_of_le P12_57.lt P65_1)
  have ne78 : b16 ≠ cc65 := Nat.ne_of_lt (Nat.lt_of_lt_of_le P39_60.lt P65_1)
  have ne79 : cc28 ≠ cc65 := Nat.ne_of_lt (Nat.lt_of_lt_of_le P39_61.lt P65_1)
  have ne80 : b47 ≠ cc65 := Nat.ne_of_lt (Nat.lt_of_lt_of_le Fcount_64.lt P65_1)
  have Np81 := Fr.app Np46 Nq65
  refine Go.via st65 ?_
  show Go p.tables e below s _ _ _ (T65.setTop (mkF m 49 #[.val (.long q1), .second, .val (.long q2), .second, .val (.int p3), .val (.int pp), .val (.ref b1), .val (.ref b16), .unset] [(.ref b47)]))
  refine Go.on (fun t k => XS.astore X65.here hx rfl (hb hby at_49) rfl rfl (l' := #[.val (.long q1), .second, .val (.long q2), .second, .val (.int p3), .val (.int pp), .val (.ref b1), .val (.ref b16), .val (.ref b47)]) rfl k) ?_
  show Go p.tables e below s _ _ _ (T65.setTop (mkF m 51 #[.val (.long q1), .second, .val (.long q2), .second, .val (.int p3), .val (.int pp), .val (.ref b1), .val (.ref b16), .val (.ref b47)] []))
  refine Go.on (fun t k => XS.aload X65.here hx rfl (hb hby at_51) rfl rfl k) ?_
  show Go p.tables e below s _ _ _ (T65.setTop (mkF m 53 #[.val (.long q1), .second, .val (.long q2), .second, .val (.int p3), .val (.int pp), .val (.ref b1), .val (.ref b16), .val (.ref b47)] [(.ref b47)]))
  refine Go.on (fun t k => XS.lloadN X65.here hx rfl (hb hby at_53) rfl k) ?_
  show Go p.tables e below s _ _ _ (T65.setTop (mkF m 54 #[.val (.long q1), .second, .val (.long q2), .second, .val (.int p3), .val (.int pp), .val (.ref b1), .val (.ref b16), .val (.ref b47)] [(.long q1), (.ref b47)]))
  obtain ⟨cq82, kq82, q82a, q82b, q82c⟩ := isOf hZ rfl A47_74
  obtain ⟨_, _, ⟨T82, L82, k82, n82⟩, -, X82, ⟨Lc82, hQ82, l82, y82, z82⟩, st82⟩ := X65.virtualBack hx (y := (⟨"com/example/loomport/loomport/loadgen/Latencies", "add", "(J)V"⟩ : MethodName)) (z := (⟨"com/example/loomport/loomport/loadgen/Latencies", "add", "(J)V"⟩ : MethodName)) hown (mvT hZ (hw _ (List.mem_of_getElem? (i := 26) rfl))) (mvT hZ (hw _ (List.mem_of_getElem? (i := 27) rfl))) (notFace_of_selects (args := #[]) (mvT hZ (hw _ (List.mem_of_getElem? (i := 29) rfl)))) (mvT hZ (hw _ (List.mem_of_getElem? (i := 29) rfl))) (mvT hZ (hw _ (List.mem_of_getElem? (i := 28) rfl))) (by decide) (backOf (W := 0) (rm6 l Z a0 hw [] b47 q1 cc65 (0 : Int64) (fun _ => 0) T65.heap n0 Zp75 A47_74 ge52 P65_0 ne80 P65_2 P65_3 P65_4) hZ (hw _ (List.mem_of_getElem? (i := 30) rfl)) (hw _ (List.mem_of_getElem? (i := 3) rfl)) (by decide) (by decide)) q82a q82c (g := (mkF m 54 #[.val (.long q1), .second, .val (.long q2), .second, .val (.int p3), .val (.int pp), .val (.ref b1), .val (.ref b16), .val (.ref b47)] [(.long q1), (.ref b47)])) rfl (by rw [hml]; rfl) (Steps.refl _) (argsL := [(.long q1)]) (rest := []) (lenOf pd__40_J_41_V rfl) rfl (by show 2 * 0 + _ ≤ _; exact Nat.le_of_eq rfl) (hb hby at_54) (fun _ _ => ⟨rfl, rfl, (by decide : ((((((((0 + 1) + 1) + 0) + 1) + 1) + 0) + 1) + 1) + 0 ≤ _), (by decide : ((((((((0 + 2) + 45056) + 0) + 2) + 45056) + 0) + 2) + 45056) + 0 ≤ _)⟩)
  dsimp only [Pt.U, Pt.locs, Pt.cells, Pt.slots] at X82 l82 y82 z82 st82 hQ82
  subst l82 y82 z82
  obtain ⟨rfl, Nq82, Kq82, P82_0, P82_1, P82_2⟩ := hQ82
  have A1_83 := A1_66.keep Kq82
  have P12_84 := P12_67.keep Kq82 (ninS ne48 (ninS ne76 nin0))
  have P12_85 := P12_68.keep Kq82 (ninS ne48 (ninS ne76 nin0))
  have P12_86 := P12_69.keep Kq82 (ninS ne49 (ninS ne77 nin0))
  have A16_87 := A16_70.keep Kq82
  have P39_88 := P39_71.keep Kq82 (ninS ne50 (ninS ne78 nin0))
  have P39_89 := P39_72.keep Kq82 (ninS ne50 (ninS ne78 nin0))
  have P39_90 := P39_73.keep Kq82 (ninS ne51 (ninS ne79 nin0))
  have A47_91 := A47_74.keep Kq82
  have Zp92 := Nat.le_trans Zp75 Kq82.1
  have Np93 := Fr.app Np81 Nq82
  refine Go.via st82 ?_
  show Go p.tables e below s _ _ _ (T82.setTop (mkF m 57 #[.val (.long q1), .second, .val (.long q2), .second, .val (.int p3), .val (.int pp), .val (.ref b1), .val (.ref b16), .val (.ref b47)] []))
  refine Go.on (fun t k => XS.aload X82.here hx rfl (hb hby at_57) rfl rfl k) ?_
  show Go p.tables e below s _ _ _ (T82.setTop (mkF m 59 #[.val (.long q1), .second, .val (.long q2), .second, .val (.int p3), .val (.int pp), .val (.ref b1), .val (.ref b16), .val (.ref b47)] [(.ref b47)]))
  refine Go.on (fun t k => XS.lloadN X82.here hx rfl (hb hby at_59) rfl k) ?_
  show Go p.tables e below s _ _ _ (T82.setTop (mkF m 60 #[.val (.long q1), .second, .val (.long q2), .second, .val (.int p3), .val (.int pp), .val (.ref b1), .val (.ref b16), .val (.ref b47)] [(.long q2), (.ref b47)]))
  obtain ⟨cq94, kq94, q94a, q94b, q94c⟩ := isOf hZ rfl A47_91
  obtain ⟨_, _, ⟨T94, L94, k94, n94⟩, -, X94, ⟨Lc94, hQ94, l94, y94, z94⟩, st94⟩ := X82.virtualBack hx (y := (⟨"com/example/loomport/loomport/loadgen/Latencies", "add", "(J)V"⟩ : MethodName)) (z := (⟨"com/example/loomport/loomport/loadgen/Latencies", "add", "(J)V"⟩ : MethodName)) hown (mvT hZ (hw _ (List.mem_of_getElem? (i := 26) rfl))) (mvT hZ (hw _ (List.mem_of_getElem? (i := 27) rfl))) (notFace_of_selects (args := #[]) (mvT hZ (hw _ (List.mem_of_getElem? (i := 29) rfl)))) (mvT hZ (hw _ (List.mem_of_getElem? (i := 29) rfl))) (mvT hZ (hw _ (List.mem_of_getElem? (i := 28) rfl))) (by decide) (backOf (W := 0) (rm6 l Z a0 hw [] b47 q2 cc65 ((0 : Int64) + (1 : Int64)) (own_inc (fun _ => 0) (own_bk (own_u q1))) T82.heap n0 Zp92 A47_91 ge52 P65_0 ne80 P82_0 P82_1 P82_2) hZ (hw _ (List.mem_of_getElem? (i := 30) rfl)) (hw _ (List.mem_of_getElem? (i := 3) rfl)) (by decide) (by decide)) q94a q94c (g := (mkF m 60 #[.val (.long q1), .second, .val (.long q2), .second, .val (.int p3), .val (.int pp), .val (.ref b1), .val (.ref b16), .val (.ref b47)] [(.long q2), (.ref b47)])) rfl (by rw [hml]; rfl) (Steps.refl _) (argsL := [(.long q2)]) (rest := []) (lenOf pd__40_J_41_V rfl) rfl (by show 2 * 0 + _ ≤ _; exact Nat.le_of_eq rfl) (hb hby at_60) (fun _ _ => ⟨rfl, rfl, (by decide : (((((((((0 + 1) + 1) + 0) + 1) + 1) + 0) + 1) + 1) + 0) + 0 ≤ _), (by decide : (((((((((0 + 2) + 45056) + 0) + 2) + 45056) + 0) + 2) + 45056) + 0) + 0 ≤ _)⟩)
  dsimp only [Pt.U, Pt.locs, Pt.cells, Pt.slots] at X94 l94 y94 z94 st94 hQ94
  subst l94 y94 z94
  obtain ⟨rfl, Nq94, Kq94, P94_0, P94_1, P94_2⟩ := hQ94
  have A1_95 := A1_83.keep Kq94
  have P12_96 := P12_84.keep Kq94 (ninS ne48 (ninS ne76 nin0))
  have P12_97 := P12_85.keep Kq94 (ninS ne48 (ninS ne76 nin0))
  have P12_98 := P12_86.keep Kq94 (ninS ne49 (ninS ne77 nin0))
  have A16_99 := A16_87.keep Kq94
  have P39_100 := P39_88.keep Kq94 (ninS ne50 (ninS ne78 nin0))
  have P39_101 := P39_89.keep Kq94 (ninS ne50 (ninS ne78 nin0))
  have P39_102 := P39_90.keep Kq94 (ninS ne51 (ninS ne79 nin0))
  have A47_103 := A47_91.keep Kq94
  have Zp104 := Nat.le_trans Zp92 Kq94.1
  have Np105 := Fr.app Np93 Nq94
  refine Go.via st94 ?_
  show Go p.tables e below s _ _ _ (T94.setTop (mkF m 63 #[.val (.long q1), .second, .val (.long q2), .second, .val (.int p3), .val (.int pp), .val (.ref b1), .val (.ref b16), .val (.ref b47)] []))
  refine Go.on (fun t k => XS.aload X94.here hx rfl (hb hby at_63) rfl rfl k) ?_
  show Go p.tables e below s _ _ _ (T94.setTop (mkF m 65 #[.val (.long q1), .second, .val (.long q2), .second, .val (.int p3), .val (.int pp), .val (.ref b1), .val (.ref b16), .val (.ref b47)] [(.ref b1)]))
  refine Go.on (fun t k => XS.aload X94.here hx rfl (hb hby at_65) rfl rfl k) ?_
  show Go p.tables e below s _ _ _ (T94.setTop (mkF m 67 #[.val (.long q1), .second, .val (.long q2), .second, .val (.int p3), .val (.int pp), .val (.ref b1), .val (.ref b16), .val (.ref b47)] [(.ref b16), (.ref b1)]))
  obtain ⟨cq106, kq106, q106a, q106b, q106c⟩ := isOf hZ rfl A1_95
  obtain ⟨_, _, ⟨T106, L106, k106, n106⟩, -, X106, ⟨Lc106, hQ106, l106, y106, z106⟩, st106⟩ := X94.virtualBack hx (y := (⟨"com/example/loomport/loomport/loadgen/Latencies", "addAll", "(Lcom/example/loomport/loomport/loadgen/Latencies;)V"⟩ : MethodName)) (z := (⟨"com/example/loomport/loomport/loadgen/Latencies", "addAll", "(Lcom/example/loomport/loomport/loadgen/Latencies;)V"⟩ : MethodName)) hown (mvT hZ (hw _ (List.mem_of_getElem? (i := 40) rfl))) (mvT hZ (hw _ (List.mem_of_getElem? (i := 41) rfl))) (notFace_of_selects (args := #[]) (mvT hZ (hw _ (List.mem_of_getElem? (i := 43) rfl)))) (mvT hZ (hw _ (List.mem_of_getElem? (i := 43) rfl))) (mvT hZ (hw _ (List.mem_of_getElem? (i := 42) rfl))) (by decide) (backOf (W := 0) (rm9 l Z a0 hw [] b1 b16 cc7 ((0 : Int64) + (1 : Int64)) (own_inc (fun _ => 0) (own_bk (own_u q1))) cc28 ((0 : Int64) + (1 : Int64)) (own_inc (fun _ => 0) (own_bk (own_u q2))) T94.heap n0 Zp104 A1_95 ge2 P7_0 ne10 (Ne.symm ne18) (Ne.symm ne36) (Ne.symm ne17) (Ne.symm ne35) P12_96 P12_97 P39_100 P39_101 P12_98 P39_102) hZ (hw _ (List.mem_of_getElem? (i := 44) rfl)) (hw _ (List.mem_of_getElem? (i := 3) rfl)) (by decide) (by decide)) q106a q106c (g := (mkF m 67 #[.val (.long q1), .second, .val (.long q2), .second, .val (.int p3), .val (.int pp), .val (.ref b1), .val (.ref b16), .val (.ref b47)] [(.ref b16), (.ref b1)])) rfl (by rw [hml]; rfl) (Steps.refl _) (argsL := [(.ref b16)]) (rest := []) (lenOf pd__40_Lcom_47_example_47_loomport_47_loomport_47_loadgen_47_Latencies_59__41_V rfl) rfl (by show 2 * 0 + _ ≤ _; exact Nat.le_of_eq rfl) (hb hby at_67) (fun _ _ => ⟨rfl, rfl, (by decide : ((((((((((0 + 1) + 1) + 0) + 1) + 1) + 0) + 1) + 1) + 0) + 0) + 0 ≤ _), (by decide : ((((((((((0 + 2) + 45056) + 0) + 2) + 45056) + 0) + 2) + 45056) + 0) + 0) + 0 ≤ _)⟩)
  dsimp only [Pt.U, Pt.locs, Pt.cells, Pt.slots] at X106 l106 y106 z106 st106 hQ106
  subst l106 y106 z106
  obtain ⟨rfl, Nq106, Kq106, P106_0, P106_1, P106_2⟩ := hQ106
  have A1_107 := A1_95.keep Kq106
  have A16_108 := A16_99.keep Kq106
  have P39_109 := P39_100.keep Kq106 (ninS (Ne.symm ne17) (ninS (Ne.symm ne18) nin0))
  have P39_110 := P39_101.keep Kq106 (ninS (Ne.symm ne17) (ninS (Ne.symm ne18) nin0))
  have P39_111 := P39_102.keep Kq106 (ninS (Ne.symm ne35) (ninS (Ne.symm ne36) nin0))
  have A47_112 := A47_103.keep Kq106
  have P94_113 := P94_0.keep Kq106 (ninS (Ne.symm ne48) (ninS (Ne.symm ne49) nin0))
  have P94_114 := P94_1.keep Kq106 (ninS (Ne.symm ne48) (ninS (Ne.symm ne49) nin0))
  have P94_115 := P94_2.keep Kq106 (ninS (Ne.symm ne76) (ninS (Ne.symm ne77) nin0))
  have Zp116 := Nat.le_trans Zp104 Kq106.1
  have Np117 := Fr.app Np105 Nq106
  refine Go.via st106 ?_
  show Go p.tables e below s _ _ _ (T106.setTop (mkF m 70 #[.val (.long q1), .second, .val (.long q2), .second, .val (.int p3), .val (.int pp), .val (.ref b1), .val (.ref b16), .val (.ref b47)] []))
  refine Go.on (fun t k => XS.aload X106.here hx rfl (hb hby at_70) rfl rfl k) ?_
  show Go p.tables e below s _ _ _ (T106.setTop (mkF m 72 #[.val (.long q1), .second, .val (.long q2), .second, .val (.int p3), .val (.int pp), .val (.ref b1), .val (.ref b16), .val (.ref b47)] [(.ref b1)]))
  refine Go.on (fun t k => XS.iload X106.here hx rfl (hb hby at_72) rfl k) ?_
  show Go p.tables e below s _ _ _ (T106.setTop (mkF m 74 #[.val (.long q1), .second, .val (.long q2), .second, .val (.int p3), .val (.int pp), .val (.ref b1), .val (.ref b16), .val (.ref b47)] [(.int pp), (.ref b1)]))
  obtain ⟨cq118, kq118, q118a, q118b, q118c⟩ := isOf hZ rfl A1_107
  obtain ⟨_, _, ⟨T118, L118, k118, n118⟩, -, X118, ⟨Lc118, hQ118, l118, y118, z118⟩, st118⟩ := X106.virtualBack hx (y := (⟨"com/example/loomport/loomport/loadgen/Latencies", "percentile", "(I)J"⟩ : MethodName)) (z := (⟨"com/example/loomport/loomport/loadgen/Latencies", "percentile", "(I)J"⟩ : MethodName)) hown (mvT hZ (hw _ (List.mem_of_getElem? (i := 45) rfl))) (mvT hZ (hw _ (List.mem_of_getElem? (i := 46) rfl))) (notFace_of_selects (args := #[]) (mvT hZ (hw _ (List.mem_of_getElem? (i := 48) rfl)))) (mvT hZ (hw _ (List.mem_of_getElem? (i := 48) rfl))) (mvT hZ (hw _ (List.mem_of_getElem? (i := 47) rfl))) (by decide) (backOf (W := 0) (rm10 l Z a0 hw [] b1 pp cc7 (((0 : Int64) + (1 : Int64)) + ((0 : Int64) + (1 : Int64))) (own_both (own_inc (fun _ => 0) (own_bk (own_u q1))) (own_inc (fun _ => 0) (own_bk (own_u q2))) 45056) T106.heap n0 Zp116 P106_0 P106_1 P106_2) hZ (hw _ (List.mem_of_getElem? (i := 49) rfl)) (hw _ (List.mem_of_getElem? (i := 3) rfl)) (by decide) (by decide)) q118a q118c (g := (mkF m 74 #[.val (.long q1), .second, .val (.long q2), .second, .val (.int p3), .val (.int pp), .val (.ref b1), .val (.ref b16), .val (.ref b47)] [(.int pp), (.ref b1)])) rfl (by rw [hml]; rfl) (Steps.refl _) (argsL := [(.int pp)]) (rest := []) (lenOf pd__40_I_41_J rfl) rfl (by show 2 * 0 + _ ≤ _; exact Nat.le_of_eq rfl) (hb hby at_74) (fun _ _ => ⟨rfl, rfl, (by decide : (((((((((((0 + 1) + 1) + 0) + 1) + 1) + 0) + 1) + 1) + 0) + 0) + 0) + 0 ≤ _), (by decide : (((((((((((0 + 2) + 45056) + 0) + 2) + 45056) + 0) + 2) + 45056) + 0) + 0) + 0) + 0 ≤ _)⟩)
  dsimp only [Pt.U, Pt.locs, Pt.cells, Pt.slots] at X118 l118 y118 z118 st118 hQ118
  subst l118 y118 z118
  obtain ⟨rfl, Nq118, e118⟩ := hQ118
  have Np119 := Fr.app Np117 Nq118
  refine Go.via st118 ?_
  show Go p.tables e below s _ _ _ (T118.setTop (mkF m 77 #[.val (.long q1), .second, .val (.long q2), .second, .val (.int p3), .val (.int pp), .val (.ref b1), .val (.ref b16), .val (.ref b47)] [(.long (own_pct (own_both (own_inc (fun _ => 0) (own_bk (own_u q1))) (own_inc (fun _ => 0) (own_bk (own_u q2))) 45056) (((0 : Int64) + (1 : Int64)) + ((0 : Int64) + (1 : Int64))) pp))]))
  refine Go.on (fun t k => XS.aload X118.here hx rfl (hb hby at_77) rfl rfl k) ?_
  show Go p.tables e below s _ _ _ (T118.setTop (mkF m 79 #[.val (.long q1), .second, .val (.long q2), .second, .val (.int p3), .val (.int pp), .val (.ref b1), .val (.ref b16), .val (.ref b47)] [(.ref b47), (.long (own_pct (own_both (own_inc (fun _ => 0) (own_bk (own_u q1))) (own_inc (fun _ => 0) (own_bk (own_u q2))) 45056) (((0 : Int64) + (1 : Int64)) + ((0 : Int64) + (1 : Int64))) pp))]))
  refine Go.on (fun t k => XS.iload X118.here hx rfl (hb hby at_79) rfl k) ?_
  show Go p.tables e below s _ _ _ (T118.setTop (mkF m 81 #[.val (.long q1), .second, .val (.long q2), .second, .val (.int p3), .val (.int pp), .val (.ref b1), .val (.ref b16), .val (.ref b47)] [(.int pp), (.ref b47), (.long (own_pct (own_both (own_inc (fun _ => 0) (own_bk (own_u q1))) (own_inc (fun _ => 0) (own_bk (own_u q2))) 45056) (((0 : Int64) + (1 : Int64)) + ((0 : Int64) + (1 : Int64))) pp))]))
  obtain ⟨cq120, kq120, q120a, q120b, q120c⟩ := isOf hZ e118 A47_112
  obtain ⟨_, _, ⟨T120, L120, k120, n120⟩, -, X120, ⟨Lc120, hQ120, l120, y120, z120⟩, st120⟩ := X118.virtualBack hx (y := (⟨"com/example/loomport/loomport/loadgen/Latencies", "percentile", "(I)J"⟩ : MethodName)) (z := (⟨"com/example/loomport/loomport/loadgen/Latencies", "percentile", "(I)J"⟩ : MethodName)) hown (mvT hZ (hw _ (List.mem_of_getElem? (i := 45) rfl))) (mvT hZ (hw _ (List.mem_of_getElem? (i := 46) rfl))) (notFace_of_selects (args := #[]) (mvT hZ (hw _ (List.mem_of_getElem? (i := 48) rfl)))) (mvT hZ (hw _ (List.mem_of_getElem? (i := 48) rfl))) (mvT hZ (hw _ (List.mem_of_getElem? (i := 47) rfl))) (by decide) (backOf (W := 2) (rm10 l Z a0 hw [] b47 pp cc65 (((0 : Int64) + (1 : Int64)) + (1 : Int64)) (own_inc (own_inc (fun _ => 0) (own_bk (own_u q1))) (own_bk (own_u q2))) T106.heap n0 Zp116 P94_113 P94_114 P94_115) hZ (hw _ (List.mem_of_getElem? (i := 49) rfl)) (hw _ (List.mem_of_getElem? (i := 3) rfl)) (by decide) (by decide)) q120a q120c (g := (mkF m 81 #[.val (.long q1), .second, .val (.long q2), .second, .val (.int p3), .val (.int pp), .val (.ref b1), .val (.ref b16), .val (.ref b47)] [(.int pp), (.ref b47), (.long (own_pct (own_both (own_inc (fun _ => 0) (own_bk (own_u q1))) (own_inc (fun _ => 0) (own_bk (own_u q2))) 45056) (((0 : Int64) + (1 : Int64)) + ((0 : Int64) + (1 : Int64))) pp))])) rfl (by rw [hml]; rfl) (Steps.refl _) (argsL := [(.int pp)]) (rest := [(.long (own_pct (own_both (own_inc (fun _ => 0) (own_bk (own_u q1))) (own_inc (fun _ => 0) (own_bk (own_u q2))) 45056) (((0 : Int64) + (1 : Int64)) + ((0 : Int64) + (1 : Int64))) pp))]) (lenOf pd__40_I_41_J rfl) rfl (by show 2 * 0 + _ ≤ _; exact Nat.le_of_eq rfl) (hb hby at_81) (fun _ _ => ⟨rfl, e118, (by decide : ((((((((((((0 + 1) + 1) + 0) + 1) + 1) + 0) + 1) + 1) + 0) + 0) + 0) + 0) + 0 ≤ _), (by decide : ((((((((((((0 + 2) + 45056) + 0) + 2) + 45056) + 0) + 2) + 45056) + 0) + 0) + 0) + 0) + 0 ≤ _)⟩)
  dsimp only [Pt.U, Pt.locs, Pt.cells, Pt.slots] at X120 l120 y120 z120 st120 hQ120
  subst l120 y120 z120
  obtain ⟨rfl, Nq120, e120⟩ := hQ120
  have Np121 := Fr.app Np119 Nq120
  refine Go.via st120 ?_
  show Go p.tables e below s _ _ _ (T120.setTop (mkF m 84 #[.val (.long q1), .second, .val (.long q2), .second, .val (.int p3), .val (.int pp), .val (.ref b1), .val (.ref b16), .val (.ref b47)] [(.long (own_pct (own_inc (own_inc (fun _ => 0) (own_bk (own_u q1))) (own_bk (own_u q2))) (((0 : Int64) + (1 : Int64)) + (1 : Int64)) pp)), (.long (own_pct (own_both (own_inc (fun _ => 0) (own_bk (own_u q1))) (own_inc (fun _ => 0) (own_bk (own_u q2))) 45056) (((0 : Int64) + (1 : Int64)) + ((0 : Int64) + (1 : Int64))) pp))]))
  refine Go.on (fun t k => XS.lcmp X120.here hx rfl (hb hby at_84) rfl k) ?_
  show Go p.tables e below s _ _ _ (T120.setTop (mkF m 85 #[.val (.long q1), .second, .val (.long q2), .second, .val (.int p3), .val (.int pp), .val (.ref b1), .val (.ref b16), .val (.ref b47)] [(.int (lcmpW (own_pct (own_both (own_inc (fun _ => 0) (own_bk (own_u q1))) (own_inc (fun _ => 0) (own_bk (own_u q2))) 45056) (((0 : Int64) + (1 : Int64)) + ((0 : Int64) + (1 : Int64))) pp) (own_pct (own_inc (own_inc (fun _ => 0) (own_bk (own_u q1))) (own_bk (own_u q2))) (((0 : Int64) + (1 : Int64)) + (1 : Int64)) pp)))]))
  refine Go.on (fun t k => XS.ifNo X120.here hx rfl (hb hby at_85) rfl ((if0 _ _).trans (teq ((lw_eq _ _).mpr (own_pctEq _ _ _))).2) k) ?_
  show Go p.tables e below s _ _ _ (T120.setTop (mkF m 88 #[.val (.long q1), .second, .val (.long q2), .second, .val (.int p3), .val (.int pp), .val (.ref b1), .val (.ref b16), .val (.ref b47)] []))
  refine Go.on (fun t k => XS.iconst X120.here hx rfl (hb hby at_88) k) ?_
  show Go p.tables e below s _ _ _ (T120.setTop (mkF m 89 #[.val (.long q1), .second, .val (.long q2), .second, .val (.int p3), .val (.int pp), .val (.ref b1), .val (.ref b16), .val (.ref b47)] [(.int (1 : Int32))]))
  refine Go.on (fun t k => XS.goto X120.here hx rfl (pc0 := 89) (pc' := 93) rfl (hb hby at_89) (by decide) (by decide) k) ?_
  show Go p.tables e below s _ _ _ (T120.setTop (mkF m 93 #[.val (.long q1), .second, .val (.long q2), .second, .val (.int p3), .val (.int pp), .val (.ref b1), .val (.ref b16), .val (.ref b47)] [(.int (1 : Int32))]))
  refine Go.retN X120 hx hlk (t := .boolean) Bd.returns (by simp) (hb hby at_93) (by decide) (by decide) e120 ?_
  exact ⟨rfl, Np121⟩
set_option maxRecDepth 65536 in
set_option maxHeartbeats 40000000 in
theorem comes_1 {Post : Tables → Env → Array Value → State → Outcome → State → Prop} (hpost : ∀ tb e args s v u, (limb_1_1.after args s (.returned v) u = true ∧ limb_1_2.after args s (.returned v) u = true ∧ True) → FrameEnd s (.returned v) u (Jvm.fieldLocs frame_1_writes args s ++ Jvm.arrayLocs frame_1_arrays args s ++ Jvm.staticLocs frame_1_statics s) 24 162240 → Post tb e args s (.returned v) u) :
    ArmFor flags0 classFile x code maxLocals ret World_1 tables_1 room_1 Calls_1 rest_1 Pre_1 Post := by
  intro l hfl _ _ p e ha hc hk s m args below hf hA hF happ hP
  obtain ⟨hcalls, hrest, hpre⟩ := hP
  obtain ⟨-, -, -, hnamed, -, -, -, hat⟩ := (Spec.applies_iff hf).mp happ
  obtain ⟨hg, hn⟩ := and_e (Cond.before_iff.mp (show (Jvm.Cond.and given_1 narrow_1).before args s = true from hpre))
  obtain ⟨gg1, gg2⟩ := and_e hg
  obtain ⟨gg3, gg4⟩ := and_e gg2
  obtain ⟨gg5, gg6⟩ := and_e gg4
  obtain ⟨w0, w1, w2, rfl⟩ : ∃ w0 w1 w2 : Value, args = #[w0, w1, w2] := by
    have hs : args.size = 3 := by simpa [Cond.value, given_1] using gg1
    obtain ⟨L⟩ := args
    match L, hs with
    | [w0, w1, w2], _ => exact ⟨w0, w1, w2, rfl⟩
  have hw := fun d (hd : d ∈ tables_1) => atoms_spec (ws := Jvm.Cond.code x code maxLocals ret :: tables_1) hat d (List.mem_cons_of_mem _ hd)
  have hfit : Fit s := fun {y c} hc i hi => by
    obtain ⟨ha, rfl⟩ := Array.getElem?_eq_some_iff.mp hc
    have q := List.all_eq_true.mp ((Array.all_eq_true_iff_forall_mem.mp hF) _ (Array.getElem_mem ha)) i (List.mem_range.mpr hi)
    simpa [Array.getElem?_eq_getElem hi] using q
  obtain ⟨i0, ei0⟩ := isL_v gg3
  obtain rfl : w0 = (.long i0) := Option.some.inj ei0
  obtain ⟨i1, ei1⟩ := isL_v gg5
  obtain rfl : w1 = (.long i1) := Option.some.inj ei1
  obtain ⟨i2, ei2⟩ := is_v gg6
  obtain rfl : w2 = (.int i2) := Option.some.inj ei2
  obtain ⟨n, o, h1, h2, h3, _, L, rfl, ⟨rfl, N⟩, hq⟩ := rm0 l s _ hw tables_1 i0 i1 i2  s.heap s.heap.size (Nat.le_refl _)  p e ha hc hk s m _ below hf ((Spec.applies_iff_loose hf).mp happ).1 ⟨rfl, State.Warmed39.refl s, rfl⟩ trivial
  refine ⟨n, _, h1, h2, h3, hpost _ _ _ _ _ _ ⟨Cond.after_iff.mpr rfl, Cond.after_iff.mpr (eq_i res_at (Term.int_eval (1)) rfl), trivial⟩ ⟨hq.1, hq.2.1, (hq.2.2.sift fun y hy => Or.inr (N y hy)).mono (by decide) (by decide)⟩⟩
theorem main_1_1 : Claimed_1_1 := comes_1 fun _ _ _ _ _ _ h hF => ⟨h.1, hF⟩
theorem main_1_2 : Claimed_1_2 := comes_1 fun _ _ _ _ _ _ h hF => ⟨h.2.1, hF⟩
end Jvm.Pilot.@@N@@
namespace Jvm.Pilot.@@N@@
open Jvm Jvm.ClassFile Sem Op Lib Jvm.Free Jvm.Stand Jvm.Pilot.@@N@@.Jvm.D
/-! MADE BY PROGRAM (witnessworld.py) out of the Statement's table words and the real class files: 18 classes; the members and pool entries that the words name. The judged class is class 1, her method 1. -/
namespace start1
open Jvm.ClassFile
def u (s : String) : CpInfo := .utf8 (stringToUtf16 s)
/-- a pool by its gaps: so many unusable entries, then the entry; so many at the end -/
def gap : Nat → List CpInfo → List CpInfo
  | 0, r => r
  | n + 1, r => .unusable :: gap n r
def poolList (es : List (Nat × CpInfo)) (last : Nat) : List CpInfo := es.foldr (fun e r => gap e.1 (e.2 :: r)) (gap last [])
def pool (es : List (Nat × CpInfo)) (last : Nat) : Array CpInfo := ⟨poolList es last⟩
def fileOf (pool : Array CpInfo) (this : Nat) (attrs : Array Attribute := #[]) (ms : Array MethodInfo := #[]) (fl : Nat := 33) (sup : Nat := 0) (ifs : Array Nat := #[]) (fds : Array FieldInfo := #[]) : ClassFile where
  minorVersion := 0
  majorVersion := 65
  constantPool := pool
  accessFlags := fl
  thisClass := this
  superClass := sup
  interfaces := ifs
  fields := fds
  methods := ms
  attributes := attrs
def plain (name : String) (sup : Option ClassId) : Class where
  name := name
  kind := .ordinary
  loader := none
  accessFlags := 33
  super := sup
  interfaces := #[]
  cf := none
  fields := #[]
  methods := #[]
  instanceTypes := #[]
  staticTypes := #[]
  resolved := #[]
  callSites := []
  init := .initialized
  statics := none
  mirror := none

def pool0 : Array CpInfo := pool [(5, u "<init>"), (0, u "()V"), (1, .class_ 10), (1, u "java/lang/Object")] 113

def k0c0 : Code := { maxStack := 0, maxLocals := 1, code := object_method_1_code, exceptionTable := #[], attributes := #[] }
def k0m0 : Method := { name := "<init>", desc := "()V", sig := { parameters := [], returnType := none }, accessFlags := 1, code := some k0c0 }
/-- java/lang/Object -/
def k0 : Class := { plain "java/lang/Object" none with
  accessFlags := 33
  interfaces := #[]
  cf := some (fileOf pool0 8 #[] #[{ accessFlags := 1, nameIndex := 5, descriptorIndex := 6, attributes := #[] }] 33 0 #[] #[])
  fields := #[]
  methods := #[k0m0]
  instanceTypes := #[]
  staticTypes := #[]
  resolved := Array.replicate 124 none
  statics := none }

def pool1 : Array CpInfo := pool [(2, .class_ 4), (0, .nameAndType 5 6), (0, u "java/lang/Object"), (0, u "<init>"), (0, u "()V"), (0, .integer 2147483647), (0, .class_ 9), (0, u "com/example/loomport/loomport/loadgen/Latencies"), (0, .methodref 8 3), (0, .methodref 8 12), (0, .nameAndType 13 14), (0, u "add"), (0, u "(J)V"), (0, .methodref 8 16), (0, .nameAndType 17 18), (0, u "addAll"), (0, u "(Lcom/example/loomport/loomport/loadgen/Latencies;)V"), (0, .methodref 8 20), (0, .nameAndType 21 22), (0, u "percentile"), (0, u "(I)J"), (0, .class_ 24), (0, u "com/example/loomport/loomport/loadgen/LatenciesAddAllPinLaw"), (2, u "law"), (0, u "(JJI)Z")] 3

def k1m0 : Method := { name := "<init>", desc := "()V", sig := { parameters := [], returnType := none }, accessFlags := 1, code := none }
def k1c1 : Code := { maxStack := 4, maxLocals := 9, code := code, exceptionTable := #[], attributes := #[] }
def k1m1 : Method := { name := "law", desc := "(JJI)Z", sig := { parameters := [.long, .long, .int], returnType := some .boolean }, accessFlags := 9, code := some k1c1 }
/-- com/example/loomport/loomport/loadgen/LatenciesAddAllPinLaw -/
def k1 : Class := { plain "com/example/loomport/loomport/loadgen/LatenciesAddAllPinLaw" (some 0) with
  accessFlags := 49
  interfaces := #[]
  cf := some (fileOf pool1 23 #[] #[{ accessFlags := 1, nameIndex := 5, descriptorIndex := 6, attributes := #[] }, { accessFlags := 9, nameIndex := 27, descriptorIndex := 28, attributes := #[] }] 49 2 #[] #[])
  fields := #[]
  methods := #[k1m0, k1m1]
  instanceTypes := #[]
  staticTypes := #[]
  resolved := Array.replicate 32 none
  statics := none }

def pool2 : Array CpInfo := pool [(1, .class_ 2), (0, u "com/example/loomport/loomport/loadgen/Latencies"), (0, .methodref 4 5), (0, .class_ 6), (0, .nameAndType 7 8), (0, u "java/lang/Object"), (0, u "<init>"), (0, u "()V"), (0, .long 4294967295), (1, .methodref 1 12), (0, .nameAndType 13 14), (0, u "bucket"), (0, u "(J)I"), (0, .fieldref 1 16), (0, .nameAndType 17 18), (0, u "counts"), (0, u "[J"), (0, .methodref 20 21), (0, .class_ 22), (0, .nameAndType 23 24), (0, u "java/lang/Math"), (0, u "max"), (0, u "(JJ)J"), (0, .methodref 20 26), (0, .nameAndType 27 24), (0, u "min"), (0, .fieldref 1 29), (0, .nameAndType 30 31), (0, u "count"), (0, u "J"), (0, .long 99), (1, .long 100), (1, .methodref 1 37), (0, .nameAndType 38 39), (0, u "lowest"), (0, u "(I)J"), (0, .long 4096), (1, .class_ 43), (0, u "java/lang/Long"), (0, .methodref 42 45), (0, .nameAndType 46 14), (0, u "numberOfLeadingZeros"), (0, u "EXACT_BITS"), (0, u "I"), (2, u "EXACT"), (1, u "HALF"), (1, u "MAX"), (2, u "add"), (0, u "(J)V"), (0, u "addAll"), (0, u "(Lcom/example/loomport/loomport/loadgen/Latencies;)V"), (1, u "percentile")] 2

def k2c0 : Code := { maxStack := 3, maxLocals := 1, code := prog_15_method_1_code, exceptionTable := #[], attributes := #[] }
def k2m0 : Method := { name := "<init>", desc := "()V", sig := { parameters := [], returnType := none }, accessFlags := 0, code := some k2c0 }
def k2c1 : Code := { maxStack := 6, maxLocals := 3, code := prog_15_method_2_code, exceptionTable := #[], attributes := #[] }
def k2m1 : Method := { name := "add", desc := "(J)V", sig := { parameters := [.long], returnType := none }, accessFlags := 0, code := some k2c1 }
def k2c2 : Code := { maxStack := 6, maxLocals := 3, code := prog_15_method_3_code, exceptionTable := #[], attributes := #[] }
def k2m2 : Method := { name := "addAll", desc := "(Lcom/example/loomport/loomport/loadgen/Latencies;)V", sig := { parameters := [(.object "com/example/loomport/loomport/loadgen/Latencies")], returnType := none }, accessFlags := 0, code := some k2c2 }
def k2c3 : Code := { maxStack := 6, maxLocals := 7, code := prog_15_method_4_code, exceptionTable := #[], attributes := #[] }
def k2m3 : Method := { name := "percentile", desc := "(I)J", sig := { parameters := [.int], returnType := some .long }, accessFlags := 0, code := some k2c3 }
def k2c4 : Code := { maxStack := 4, maxLocals := 3, code := prog_15_method_5_code, exceptionTable := #[], attributes := #[] }
def k2m4 : Method := { name := "bucket", desc := "(J)I", sig := { parameters := [.long], returnType := some .int }, accessFlags := 10, code := some k2c4 }
def k2c5 : Code := { maxStack := 3, maxLocals := 4, code := prog_15_method_6_code, exceptionTable := #[], attributes := #[] }
def k2m5 : Method := { name := "lowest", desc := "(I)J", sig := { parameters := [.int], returnType := some .long }, accessFlags := 10, code := some k2c5 }
/-- com/example/loomport/loomport/loadgen/Latencies -/
def k2 : Class := { plain "com/example/loomport/loomport/loadgen/Latencies" (some 0) with
  accessFlags := 48
  interfaces := #[]
  cf := some (fileOf pool2 1 #[] #[{ accessFlags := 0, nameIndex := 7, descriptorIndex := 8, attributes := #[] }, { accessFlags := 0, nameIndex := 58, descriptorIndex := 59, attributes := #[] }, { accessFlags := 0, nameIndex := 60, descriptorIndex := 61, attributes := #[] }, { accessFlags := 0, nameIndex := 63, descriptorIndex := 39, attributes := #[] }, { accessFlags := 10, nameIndex := 13, descriptorIndex := 14, attributes := #[] }, { accessFlags := 10, nameIndex := 38, descriptorIndex := 39, attributes := #[] }] 48 4 #[] #[{ accessFlags := 26, nameIndex := 47, descriptorIndex := 48, attributes := #[] }, { accessFlags := 24, nameIndex := 51, descriptorIndex := 48, attributes := #[] }, { accessFlags := 24, nameIndex := 53, descriptorIndex := 48, attributes := #[] }, { accessFlags := 24, nameIndex := 55, descriptorIndex := 31, attributes := #[] }, { accessFlags := 18, nameIndex := 17, descriptorIndex := 18, attributes := #[] }, { accessFlags := 2, nameIndex := 30, descriptorIndex := 31, attributes := #[] }])
  fields := #[{ name := "EXACT_BITS", type := .int, accessFlags := 26, slot := 0, constantValue := 0 }, { name := "EXACT", type := .int, accessFlags := 24, slot := 1, constantValue := 0 }, { name := "HALF", type := .int, accessFlags := 24, slot := 2, constantValue := 0 }, { name := "MAX", type := .long, accessFlags := 24, slot := 3, constantValue := 0 }, { name := "counts", type := (.array .long), accessFlags := 18, slot := 0, constantValue := 0 }, { name := "count", type := .long, accessFlags := 2, slot := 1, constantValue := 0 }]
  methods := #[k2m0, k2m1, k2m2, k2m3, k2m4, k2m5]
  instanceTypes := #[(.array .long), .long]
  staticTypes := #[.int, .int, .int, .long]
  resolved := Array.replicate 66 none
  statics := none }

def pool3 : Array CpInfo := pool [(1, .class_ 2), (0, u "java/io/Serializable"), (0, .class_ 4), (0, u "java/lang/Object")] 2

/-- java/io/Serializable -/
def k3 : Class := { plain "java/io/Serializable" (some 0) with
  accessFlags := 1537
  interfaces := #[]
  cf := some (fileOf pool3 1 #[] #[] 1537 3 #[] #[])
  fields := #[]
  methods := #[]
  instanceTypes := #[]
  staticTypes := #[]
  resolved := Array.replicate 7 none
  statics := none }

def pool4 : Array CpInfo := pool [(2, .class_ 4), (1, u "java/lang/Object"), (0, u "<init>"), (0, u "()V"), (1, .class_ 10), (1, u "java/lang/Number"), (2, .class_ 14), (0, u "java/io/Serializable"), (0, u "serialVersionUID"), (0, u "J")] 20

def k4m0 : Method := { name := "<init>", desc := "()V", sig := { parameters := [], returnType := none }, accessFlags := 1, code := none }
/-- java/lang/Number -/
def k4 : Class := { plain "java/lang/Number" (some 0) with
  accessFlags := 1057
  interfaces := #[3]
  cf := some (fileOf pool4 8 #[] #[{ accessFlags := 1, nameIndex := 5, descriptorIndex := 6, attributes := #[] }] 1057 2 #[13] #[{ accessFlags := 26, nameIndex := 15, descriptorIndex := 16, attributes := #[] }])
  fields := #[{ name := "serialVersionUID", type := .long, accessFlags := 26, slot := 0, constantValue := 0 }]
  methods := #[k4m0]
  instanceTypes := #[]
  staticTypes := #[.long]
  resolved := Array.replicate 37 none
  statics := none }

def pool5 : Array CpInfo := pool [(1, .class_ 2), (0, u "java/lang/Comparable"), (0, .class_ 4), (0, u "java/lang/Object")] 7

/-- java/lang/Comparable -/
def k5 : Class := { plain "java/lang/Comparable" (some 0) with
  accessFlags := 1537
  interfaces := #[]
  cf := some (fileOf pool5 1 #[] #[] 1537 3 #[] #[])
  fields := #[]
  methods := #[]
  instanceTypes := #[]
  staticTypes := #[]
  resolved := Array.replicate 12 none
  statics := none }

def pool6 : Array CpInfo := pool [(1, .class_ 2), (0, u "java/lang/constant/Constable"), (0, .class_ 4), (0, u "java/lang/Object")] 6

/-- java/lang/constant/Constable -/
def k6 : Class := { plain "java/lang/constant/Constable" (some 0) with
  accessFlags := 1537
  interfaces := #[]
  cf := some (fileOf pool6 1 #[] #[] 1537 3 #[] #[])
  fields := #[]
  methods := #[]
  instanceTypes := #[]
  staticTypes := #[]
  resolved := Array.replicate 11 none
  statics := none }

def pool7 : Array CpInfo := pool [(1, .class_ 2), (0, u "java/lang/constant/ConstantDesc"), (0, .class_ 4), (0, u "java/lang/Object")] 32

/-- java/lang/constant/ConstantDesc -/
def k7 : Class := { plain "java/lang/constant/ConstantDesc" (some 0) with
  accessFlags := 1537
  interfaces := #[]
  cf := some (fileOf pool7 1 #[] #[] 1537 3 #[] #[])
  fields := #[]
  methods := #[]
  instanceTypes := #[]
  staticTypes := #[]
  resolved := Array.replicate 37 none
  statics := none }

def pool8 : Array CpInfo := pool [(1, .class_ 2), (0, u "java/lang/Long"), (15, .class_ 20), (1, u "java/lang/Integer"), (79, u "numberOfLeadingZeros"), (0, u "(J)I"), (133, .class_ 237), (1, u "java/lang/Long$LongCache"), (33, .class_ 272), (0, u "java/lang/Number"), (2, u "value"), (0, u "J"), (31, .methodref 18 309), (0, .nameAndType 100 310), (0, u "(I)I"), (50, u "TYPE"), (0, u "Ljava/lang/Class;"), (0, .class_ 364), (0, u "java/lang/Comparable"), (0, .class_ 366), (0, u "java/lang/constant/Constable"), (0, .class_ 368), (0, u "java/lang/constant/ConstantDesc"), (0, u "MIN_VALUE"), (1, u "MAX_VALUE"), (4, u "SIZE"), (0, u "I"), (1, u "BYTES"), (1, u "serialVersionUID")] 142

def k8c0 : Code := { maxStack := 3, maxLocals := 3, code := jdk_35_method_48_code, exceptionTable := #[], attributes := #[] }
def k8m0 : Method := { name := "numberOfLeadingZeros", desc := "(J)I", sig := { parameters := [.long], returnType := some .int }, accessFlags := 9, code := some k8c0 }
/-- java/lang/Long -/
def k8 : Class := { plain "java/lang/Long" (some 4) with
  accessFlags := 49
  interfaces := #[5, 6, 7]
  cf := some (fileOf pool8 1 #[.nestMembers #[235]] #[{ accessFlags := 9, nameIndex := 100, descriptorIndex := 101, attributes := #[] }] 49 271 #[363, 365, 367] #[{ accessFlags := 25, nameIndex := 369, descriptorIndex := 276, attributes := #[] }, { accessFlags := 25, nameIndex := 371, descriptorIndex := 276, attributes := #[] }, { accessFlags := 25, nameIndex := 361, descriptorIndex := 362, attributes := #[] }, { accessFlags := 18, nameIndex := 275, descriptorIndex := 276, attributes := #[] }, { accessFlags := 25, nameIndex := 376, descriptorIndex := 377, attributes := #[] }, { accessFlags := 25, nameIndex := 379, descriptorIndex := 377, attributes := #[] }, { accessFlags := 26, nameIndex := 381, descriptorIndex := 276, attributes := #[] }])
  fields := #[{ name := "MIN_VALUE", type := .long, accessFlags := 25, slot := 0, constantValue := 0 }, { name := "MAX_VALUE", type := .long, accessFlags := 25, slot := 1, constantValue := 0 }, { name := "TYPE", type := (.object "java/lang/Class"), accessFlags := 25, slot := 2, constantValue := 0 }, { name := "value", type := .long, accessFlags := 18, slot := 0, constantValue := 0 }, { name := "SIZE", type := .int, accessFlags := 25, slot := 3, constantValue := 0 }, { name := "BYTES", type := .int, accessFlags := 25, slot := 4, constantValue := 0 }, { name := "serialVersionUID", type := .long, accessFlags := 26, slot := 5, constantValue := 0 }]
  methods := #[k8m0]
  instanceTypes := #[.long]
  staticTypes := #[.long, .long, (.object "java/lang/Class"), .int, .int, .long]
  resolved := Array.replicate 524 none
  statics := none }

def pool9 : Array CpInfo := pool [(1, .class_ 2), (0, u "java/lang/Integer"), (16, u "digits"), (0, u "[C"), (32, u "numberOfLeadingZeros"), (0, u "(I)I"), (30, u "DigitOnes"), (0, u "[B"), (2, u "DigitTens"), (99, .class_ 190), (0, u "java/lang/Integer$IntegerCache"), (3, u "I"), (8, .class_ 204), (0, u "java/lang/Number"), (2, u "value"), (56, .integer 65536), (37, u "TYPE"), (0, u "Ljava/lang/Class;"), (0, .class_ 305), (0, u "java/lang/Comparable"), (0, .class_ 307), (0, u "java/lang/constant/Constable"), (0, .class_ 309), (0, u "java/lang/constant/ConstantDesc"), (0, u "MIN_VALUE"), (1, u "MAX_VALUE"), (3, u "SIZE"), (1, u "BYTES"), (1, u "serialVersionUID"), (0, u "J")] 131

def k9c0 : Code := { maxStack := 3, maxLocals := 2, code := jdk_33_method_47_code, exceptionTable := #[], attributes := #[] }
def k9m0 : Method := { name := "numberOfLeadingZeros", desc := "(I)I", sig := { parameters := [.int], returnType := some .int }, accessFlags := 9, code := some k9c0 }
/-- java/lang/Integer -/
def k9 : Class := { plain "java/lang/Integer" (some 4) with
  accessFlags := 49
  interfaces := #[5, 6, 7]
  cf := some (fileOf pool9 1 #[.nestMembers #[189]] #[{ accessFlags := 9, nameIndex := 53, descriptorIndex := 54, attributes := #[] }] 49 203 #[304, 306, 308] #[{ accessFlags := 25, nameIndex := 310, descriptorIndex := 194, attributes := #[] }, { accessFlags := 25, nameIndex := 312, descriptorIndex := 194, attributes := #[] }, { accessFlags := 25, nameIndex := 302, descriptorIndex := 303, attributes := #[] }, { accessFlags := 24, nameIndex := 19, descriptorIndex := 20, attributes := #[] }, { accessFlags := 24, nameIndex := 89, descriptorIndex := 86, attributes := #[] }, { accessFlags := 24, nameIndex := 85, descriptorIndex := 86, attributes := #[] }, { accessFlags := 18, nameIndex := 207, descriptorIndex := 194, attributes := #[] }, { accessFlags := 25, nameIndex := 316, descriptorIndex := 194, attributes := #[] }, { accessFlags := 25, nameIndex := 318, descriptorIndex := 194, attributes := #[] }, { accessFlags := 26, nameIndex := 320, descriptorIndex := 321, attributes := #[] }])
  fields := #[{ name := "MIN_VALUE", type := .int, accessFlags := 25, slot := 0, constantValue := 0 }, { name := "MAX_VALUE", type := .int, accessFlags := 25, slot := 1, constantValue := 0 }, { name := "TYPE", type := (.object "java/lang/Class"), accessFlags := 25, slot := 2, constantValue := 0 }, { name := "digits", type := (.array .char), accessFlags := 24, slot := 3, constantValue := 0 }, { name := "DigitTens", type := (.array .byte), accessFlags := 24, slot := 4, constantValue := 0 }, { name := "DigitOnes", type := (.array .byte), accessFlags := 24, slot := 5, constantValue := 0 }, { name := "value", type := .int, accessFlags := 18, slot := 0, constantValue := 0 }, { name := "SIZE", type := .int, accessFlags := 25, slot := 6, constantValue := 0 }, { name := "BYTES", type := .int, accessFlags := 25, slot := 7, constantValue := 0 }, { name := "serialVersionUID", type := .long, accessFlags := 26, slot := 8, constantValue := 0 }]
  methods := #[k9m0]
  instanceTypes := #[.int]
  staticTypes := #[.int, .int, (.object "java/lang/Class"), (.array .char), (.array .byte), (.array .byte), .int, .int, .long]
  resolved := Array.replicate 453 none
  statics := none }

def pool10 : Array CpInfo := pool [(1, .class_ 2), (0, u "java/lang/Math"), (1, .class_ 6), (1, u "java/lang/Object"), (0, u "<init>"), (0, u "()V"), (89, .class_ 100), (1, u "java/lang/Math$RandomNumberGeneratorHolder"), (20, u "(JJ)J"), (50, u "negativeZeroFloatBits"), (0, u "J"), (2, u "negativeZeroDoubleBits"), (21, u "max"), (2, u "min"), (43, u "$assertionsDisabled"), (0, u "Z"), (91, u "twoToTheDoubleScaleDown"), (0, u "D"), (4, u "twoToTheDoubleScaleUp"), (9, u "E"), (3, u "PI"), (2, u "TAU"), (2, u "DEGREES_TO_RADIANS"), (0, u "RADIANS_TO_DEGREES")] 94

def k10m0 : Method := { name := "<init>", desc := "()V", sig := { parameters := [], returnType := none }, accessFlags := 2, code := none }
def k10c1 : Code := { maxStack := 4, maxLocals := 4, code := jdk_29_method_66_code, exceptionTable := #[], attributes := #[] }
def k10m1 : Method := { name := "max", desc := "(JJ)J", sig := { parameters := [.long, .long], returnType := some .long }, accessFlags := 9, code := some k10c1 }
def k10c2 : Code := { maxStack := 4, maxLocals := 4, code := jdk_29_method_70_code, exceptionTable := #[], attributes := #[] }
def k10m2 : Method := { name := "min", desc := "(JJ)J", sig := { parameters := [.long, .long], returnType := some .long }, accessFlags := 9, code := some k10c2 }
/-- java/lang/Math -/
def k10 : Class := { plain "java/lang/Math" (some 0) with
  accessFlags := 49
  interfaces := #[]
  cf := some (fileOf pool10 1 #[.nestMembers #[98]] #[{ accessFlags := 2, nameIndex := 7, descriptorIndex := 8, attributes := #[] }, { accessFlags := 9, nameIndex := 198, descriptorIndex := 121, attributes := #[] }, { accessFlags := 9, nameIndex := 201, descriptorIndex := 121, attributes := #[] }] 49 4 #[] #[{ accessFlags := 25, nameIndex := 354, descriptorIndex := 339, attributes := #[] }, { accessFlags := 25, nameIndex := 358, descriptorIndex := 339, attributes := #[] }, { accessFlags := 25, nameIndex := 361, descriptorIndex := 339, attributes := #[] }, { accessFlags := 26, nameIndex := 364, descriptorIndex := 339, attributes := #[] }, { accessFlags := 26, nameIndex := 365, descriptorIndex := 339, attributes := #[] }, { accessFlags := 26, nameIndex := 172, descriptorIndex := 173, attributes := #[] }, { accessFlags := 26, nameIndex := 176, descriptorIndex := 173, attributes := #[] }, { accessFlags := 8, nameIndex := 344, descriptorIndex := 339, attributes := #[] }, { accessFlags := 8, nameIndex := 338, descriptorIndex := 339, attributes := #[] }, { accessFlags := 4120, nameIndex := 245, descriptorIndex := 246, attributes := #[] }])
  fields := #[{ name := "E", type := .double, accessFlags := 25, slot := 0, constantValue := 0 }, { name := "PI", type := .double, accessFlags := 25, slot := 1, constantValue := 0 }, { name := "TAU", type := .double, accessFlags := 25, slot := 2, constantValue := 0 }, { name := "DEGREES_TO_RADIANS", type := .double, accessFlags := 26, slot := 3, constantValue := 0 }, { name := "RADIANS_TO_DEGREES", type := .double, accessFlags := 26, slot := 4, constantValue := 0 }, { name := "negativeZeroFloatBits", type := .long, accessFlags := 26, slot := 5, constantValue := 0 }, { name := "negativeZeroDoubleBits", type := .long, accessFlags := 26, slot := 6, constantValue := 0 }, { name := "twoToTheDoubleScaleUp", type := .double, accessFlags := 8, slot := 7, constantValue := 0 }, { name := "twoToTheDoubleScaleDown", type := .double, accessFlags := 8, slot := 8, constantValue := 0 }, { name := "$assertionsDisabled", type := .boolean, accessFlags := 4120, slot := 9, constantValue := 0 }]
  methods := #[k10m0, k10m1, k10m2]
  instanceTypes := #[]
  staticTypes := #[.double, .double, .double, .double, .double, .long, .long, .double, .double, .boolean]
  resolved := Array.replicate 460 none
  statics := none }

def pool11 : Array CpInfo := pool [(1, u "java/lang/Cloneable"), (0, .class_ 1), (0, u "java/lang/Object"), (0, .class_ 3)] 3

/-- java/lang/Cloneable -/
def k11 : Class := { plain "java/lang/Cloneable" (some 0) with
  accessFlags := 1537
  interfaces := #[]
  cf := some (fileOf pool11 2 #[] #[] 1537 4 #[] #[])
  fields := #[]
  methods := #[]
  instanceTypes := #[]
  staticTypes := #[]
  resolved := Array.replicate 8 none
  statics := none }

/-- the primitive byte -/
def k12 : Class := { plain "byte" none with kind := .primitive 'B', accessFlags := 0x411 }
/-- [B -/
def k13 : Class := { plain "[B" (some 0) with kind := .array 12 .byte, interfaces := #[11, 3], accessFlags := 1041 }

/-- the primitive int -/
def k14 : Class := { plain "int" none with kind := .primitive 'I', accessFlags := 0x411 }
/-- [I -/
def k15 : Class := { plain "[I" (some 0) with kind := .array 14 .int, interfaces := #[11, 3], accessFlags := 1041 }

/-- the primitive long -/
def k16 : Class := { plain "long" none with kind := .primitive 'J', accessFlags := 0x411 }
/-- [J -/
def k17 : Class := { plain "[J" (some 0) with kind := .array 16 .long, interfaces := #[11, 3], accessFlags := 1041 }

def heap : Heap := #[]
def classes : Array Class := #[k0, k1, k2, k3, k4, k5, k6, k7, k8, k9, k10, k11, k12, k13, k14, k15, k16, k17]
def interned : List (Array UInt16 × Addr) := []
def slotsUsed : Nat := 0
def theMethod : MethodId := ⟨1, 1⟩
def args0 : Array Value := #[.long 5, .long 7, .int 3]
def aboutOver (below : List Frame) : State where
  vm := { classes := classes, interned := interned.toArray }
  heap := heap
  slotsUsed := slotsUsed
  threads := #[{ frames := .invoking theMethod args0 :: below }]
def below0 : List Frame := [.native { method := ⟨0, 0⟩, args := #[] }]
def about1 : State := aboutOver below0
def p0 : Program := .bare "" "" ""
def e0 : Env := launch0.env 0 0 0
theorem w_frames : about1.frames = Frame.invoking theMethod args0 :: below0 := rfl
set_option maxRecDepth 65536 in
theorem w_args : argsFit about1.vm theMethod args0 = true := by decide +kernel
set_option maxRecDepth 65536 in
theorem w_heap : heapFits about1 = true := by decide +kernel
set_option maxRecDepth 65536 in
theorem w_runnable : about1.curStatus? = some .runnable := by decide +kernel
set_option maxRecDepth 65536 in
theorem w_alone : about1.alone = true := by decide +kernel
set_option maxRecDepth 65536 in
theorem w_named : about1.methodNamed? x = some theMethod := by decide +kernel
set_option maxRecDepth 65536 in
theorem w_hears : about1.hears theMethod below0 = true := by decide +kernel
set_option maxRecDepth 65536 in
theorem w_ripe : about1.ripe theMethod args0 below0 = true := by decide +kernel
theorem w_running : about1.status = .running := rfl
set_option maxRecDepth 65536 in
theorem w_room : about1.hasRoom e0.platform room_1 = true :=
  launch0.hasRoom_least _ room_1 (by decide +kernel) (by decide +kernel) (by decide +kernel) (by decide +kernel) (by decide +kernel) (by decide +kernel)
theorem allAtoms_all (ts : List Jvm.Cond) (a : Array Jvm.Value) (st : Jvm.State) : (allAtoms ts).before a st = ts.all (fun c => c.before a st) := by
  induction ts with
  | nil => rfl
  | cons c t ih =>
    show (Jvm.Cond.and c (allAtoms t)).before a st = _
    rw [Jvm.Cond.before_and, ih, List.all_cons]
def words1 : List Jvm.Cond := Jvm.Cond.code x code maxLocals ret :: tables_1
/-- a 'code' word, met by the world's own term for the bytes: nothing is compared byte by byte -/
theorem code_word {y : MethodName} {bytes : ByteArray} {mx : Nat} {rt : Option FieldType} {a : Array Value} {s : State} {m : MethodId} {meth : Method} {c : Code} (h1 : s.methodNamed? y = some m) (h2 : s.vm.method? m = some meth) (h3 : meth.code = some c) (h4 : c.code = bytes)
    (h5 : (c.maxLocals == mx && c.exceptionTable.isEmpty && decide (c.maxStack ≤ mostOperands) && decide (meth.sig.returnType = rt) && !meth.locks && decide (parseMethodDescriptor y.desc = some meth.sig)) = true) : (Jvm.Cond.code y bytes mx rt).before a s = true := by
  simp only [Bool.and_eq_true, beq_iff_eq, Bool.not_eq_true', decide_eq_true_eq] at h5
  obtain ⟨⟨⟨⟨⟨g1, g2⟩, g3⟩, g4⟩, g5⟩, g6⟩ := h5
  simp [Cond.before, Cond.holds, Cond.value, h1, h2, h3, h4, g1, g2, g3, g4, g5, g6]
def isCode : Jvm.Cond → Bool
  | .code _ _ _ _ => true
  | _ => false
theorem all_split {L : List Jvm.Cond} {P : Jvm.Cond → Bool} (h1 : L.all (fun c => isCode c || P c) = true) (h2 : ∀ c ∈ L.filter isCode, P c = true) : L.all P = true := by
  refine List.all_eq_true.mpr fun c hc => ?_
  have h := List.all_eq_true.mp h1 c hc
  rcases Bool.eq_false_or_eq_true (isCode c) with hi | hi
  · exact h2 c (List.mem_filter.mpr ⟨hc, hi⟩)
  · simpa [hi] using h
set_option maxRecDepth 65536 in
theorem w_c0 : (Jvm.Cond.code x code maxLocals ret).before args0 about1 = true := code_word (m := ⟨1, 1⟩) (meth := k1m1) (c := k1c1) (by decide +kernel) rfl rfl rfl (by decide +kernel)
set_option maxRecDepth 65536 in
theorem w_c1 : (Jvm.Cond.code ({ cls := "com/example/loomport/loomport/loadgen/Latencies", name := "<init>", desc := "()V" } : Jvm.MethodName) prog_15_method_1_code (1 : Nat) (Option.none : Option Jvm.ClassFile.FieldType)).before args0 about1 = true := code_word (m := ⟨2, 0⟩) (meth := k2m0) (c := k2c0) (by decide +kernel) rfl rfl rfl (by decide +kernel)
set_option maxRecDepth 65536 in
theorem w_c2 : (Jvm.Cond.code ({ cls := "java/lang/Object", name := "<init>", desc := "()V" } : Jvm.MethodName) object_method_1_code (1 : Nat) (Option.none : Option Jvm.ClassFile.FieldType)).before args0 about1 = true := code_word (m := ⟨0, 0⟩) (meth := k0m0) (c := k0c0) (by decide +kernel) rfl rfl rfl (by decide +kernel)
set_option maxRecDepth 65536 in
theorem w_c3 : (Jvm.Cond.code ({ cls := "com/example/loomport/loomport/loadgen/Latencies", name := "bucket", desc := "(J)I" } : Jvm.MethodName) prog_15_method_5_code (3 : Nat) (Option.some Jvm.ClassFile.FieldType.int)).before args0 about1 = true := code_word (m := ⟨2, 4⟩) (meth := k2m4) (c := k2c4) (by decide +kernel) rfl rfl rfl (by decide +kernel)
set_option maxRecDepth 65536 in
theorem w_c4 : (Jvm.Cond.code ({ cls := "java/lang/Long", name := "numberOfLeadingZeros", desc := "(J)I" } : Jvm.MethodName) jdk_35_method_48_code (3 : Nat) (Option.some Jvm.ClassFile.FieldType.int)).before args0 about1 = true := code_word (m := ⟨8, 0⟩) (meth := k8m0) (c := k8c0) (by decide +kernel) rfl rfl rfl (by decide +kernel)
set_option maxRecDepth 65536 in
theorem w_c5 : (Jvm.Cond.code ({ cls := "java/lang/Integer", name := "numberOfLeadingZeros", desc := "(I)I" } : Jvm.MethodName) jdk_33_method_47_code (2 : Nat) (Option.some Jvm.ClassFile.FieldType.int)).before args0 about1 = true := code_word (m := ⟨9, 0⟩) (meth := k9m0) (c := k9c0) (by decide +kernel) rfl rfl rfl (by decide +kernel)
set_option maxRecDepth 65536 in
theorem w_c6 : (Jvm.Cond.code ({ cls := "com/example/loomport/loomport/loadgen/Latencies", name := "add", desc := "(J)V" } : Jvm.MethodName) prog_15_method_2_code (3 : Nat) (Option.none : Option Jvm.ClassFile.FieldType)).before args0 about1 = true := code_word (m := ⟨2, 1⟩) (meth := k2m1) (c := k2c1) (by decide +kernel) rfl rfl rfl (by decide +kernel)
set_option maxRecDepth 65536 in
theorem w_c7 : (Jvm.Cond.code ({ cls := "java/lang/Math", name := "max", desc := "(JJ)J" } : Jvm.MethodName) jdk_29_method_66_code (4 : Nat) (Option.some Jvm.ClassFile.FieldType.long)).before args0 about1 = true := code_word (m := ⟨10, 1⟩) (meth := k10m1) (c := k10c1) (by decide +kernel) rfl rfl rfl (by decide +kernel)
set_option maxRecDepth 65536 in
theorem w_c8 : (Jvm.Cond.code ({ cls := "java/lang/Math", name := "min", desc := "(JJ)J" } : Jvm.MethodName) jdk_29_method_70_code (4 : Nat) (Option.some Jvm.ClassFile.FieldType.long)).before args0 about1 = true := code_word (m := ⟨10, 2⟩) (meth := k10m2) (c := k10c2) (by decide +kernel) rfl rfl rfl (by decide +kernel)
set_option maxRecDepth 65536 in
theorem w_c9 : (Jvm.Cond.code ({ cls := "com/example/loomport/loomport/loadgen/Latencies", name := "addAll", desc := "(Lcom/example/loomport/loomport/loadgen/Latencies;)V" } : Jvm.MethodName) prog_15_method_3_code (3 : Nat) (Option.none : Option Jvm.ClassFile.FieldType)).before args0 about1 = true := code_word (m := ⟨2, 2⟩) (meth := k2m2) (c := k2c2) (by decide +kernel) rfl rfl rfl (by decide +kernel)
set_option maxRecDepth 65536 in
theorem w_c10 : (Jvm.Cond.code ({ cls := "com/example/loomport/loomport/loadgen/Latencies", name := "percentile", desc := "(I)J" } : Jvm.MethodName) prog_15_method_4_code (7 : Nat) (Option.some Jvm.ClassFile.FieldType.long)).before args0 about1 = true := code_word (m := ⟨2, 3⟩) (meth := k2m3) (c := k2c3) (by decide +kernel) rfl rfl rfl (by decide +kernel)
set_option maxRecDepth 65536 in
theorem w_c11 : (Jvm.Cond.code ({ cls := "com/example/loomport/loomport/loadgen/Latencies", name := "lowest", desc := "(I)J" } : Jvm.MethodName) prog_15_method_6_code (4 : Nat) (Option.some Jvm.ClassFile.FieldType.long)).before args0 about1 = true := code_word (m := ⟨2, 5⟩) (meth := k2m5) (c := k2c5) (by decide +kernel) rfl rfl rfl (by decide +kernel)
def codes1 : List Jvm.Cond := [Jvm.Cond.code x code maxLocals ret, Jvm.Cond.code ({ cls := "com/example/loomport/loomport/loadgen/Latencies", name := "<init>", desc := "()V" } : Jvm.MethodName) prog_15_method_1_code (1 : Nat) (Option.none : Option Jvm.ClassFile.FieldType), Jvm.Cond.code ({ cls := "java/lang/Object", name := "<init>", desc := "()V" } : Jvm.MethodName) object_method_1_code (1 : Nat) (Option.none : Option Jvm.ClassFile.FieldType), Jvm.Cond.code ({ cls := "com/example/loomport/loomport/loadgen/Latencies", name := "bucket", desc := "(J)I" } : Jvm.MethodName) prog_15_method_5_code (3 : Nat) (Option.some Jvm.ClassFile.FieldType.int), Jvm.Cond.code ({ cls := "java/lang/Long", name := "numberOfLeadingZeros", desc := "(J)I" } : Jvm.MethodName) jdk_35_method_48_code (3 : Nat) (Option.some Jvm.ClassFile.FieldType.int), Jvm.Cond.code ({ cls := "java/lang/Integer", name := "numberOfLeadingZeros", desc := "(I)I" } : Jvm.MethodName) jdk_33_method_47_code (2 : Nat) (Option.some Jvm.ClassFile.FieldType.int), Jvm.Cond.code ({ cls := "com/example/loomport/loomport/loadgen/Latencies", name := "add", desc := "(J)V" } : Jvm.MethodName) prog_15_method_2_code (3 : Nat) (Option.none : Option Jvm.ClassFile.FieldType), Jvm.Cond.code ({ cls := "java/lang/Math", name := "max", desc := "(JJ)J" } : Jvm.MethodName) jdk_29_method_66_code (4 : Nat) (Option.some Jvm.ClassFile.FieldType.long), Jvm.Cond.code ({ cls := "java/lang/Math", name := "min", desc := "(JJ)J" } : Jvm.MethodName) jdk_29_method_70_code (4 : Nat) (Option.some Jvm.ClassFile.FieldType.long), Jvm.Cond.code ({ cls := "com/example/loomport/loomport/loadgen/Latencies", name := "addAll", desc := "(Lcom/example/loomport/loomport/loadgen/Latencies;)V" } : Jvm.MethodName) prog_15_method_3_code (3 : Nat) (Option.none : Option Jvm.ClassFile.FieldType), Jvm.Cond.code ({ cls := "com/example/loomport/loomport/loadgen/Latencies", name := "percentile", desc := "(I)J" } : Jvm.MethodName) prog_15_method_4_code (7 : Nat) (Option.some Jvm.ClassFile.FieldType.long), Jvm.Cond.code ({ cls := "com/example/loomport/loomport/loadgen/Latencies", name := "lowest", desc := "(I)J" } : Jvm.MethodName) prog_15_method_6_code (4 : Nat) (Option.some Jvm.ClassFile.FieldType.long)]
set_option maxRecDepth 65536 in
theorem codes_eq : words1.filter isCode = codes1 := rfl
theorem w_codes : ∀ c ∈ words1.filter isCode, c.before args0 about1 = true := by
  rw [codes_eq]
  intro c hc
  simp only [codes1, List.mem_cons, List.not_mem_nil, or_false] at hc
  rcases hc with rfl | rfl | rfl | rfl | rfl | rfl | rfl | rfl | rfl | rfl | rfl | rfl
  · exact w_c0
  · exact w_c1
  · exact w_c2
  · exact w_c3
  · exact w_c4
  · exact w_c5
  · exact w_c6
  · exact w_c7
  · exact w_c8
  · exact w_c9
  · exact w_c10
  · exact w_c11
set_option maxRecDepth 65536 in
theorem w_t1 : (words1.take 24).all (fun c => isCode c || c.before args0 about1) = true := by decide +kernel
set_option maxRecDepth 65536 in
theorem w_t2 : ((words1.drop 24).take 24).all (fun c => isCode c || c.before args0 about1) = true := by decide +kernel
set_option maxRecDepth 65536 in
theorem w_t3 : ((words1.drop 24).drop 24).all (fun c => isCode c || c.before args0 about1) = true := by decide +kernel
theorem w_tables : (allAtoms (Jvm.Cond.code x code maxLocals ret :: tables_1)).before args0 about1 = true := by
  rw [allAtoms_all]
  show words1.all (fun c => c.before args0 about1) = true
  refine all_split ?_ w_codes
  rw [← List.take_append_drop 24 words1, List.all_append, w_t1, ← List.take_append_drop 24 (words1.drop 24), List.all_append, w_t2, w_t3]
  rfl
set_option maxRecDepth 65536 in
theorem w_case : (Jvm.Cond.and given_1 narrow_1).before args0 about1 = true := by decide +kernel
theorem w_applies : (headSpec (Jvm.Cond.code x code maxLocals ret :: tables_1) room_1).applies x e0.platform about1 = true :=
  (Spec.applies_iff w_frames).mpr ⟨w_running, w_runnable, w_alone, w_named, w_hears, w_ripe, w_room, w_tables⟩
theorem atStart : AtStart classFile x code maxLocals ret World_1 tables_1 room_1 Calls_1 rest_1 Pre_1 launch0 p0 e0 about1 theMethod args0 below0 :=
  ⟨lists_1, trivial, launch0.admits_env _ _ _, launch0.least_env, fairChoices_fair.cas, fairChoices_fair.clock, w_frames, w_args, w_heap, w_applies, trivial, trivial, w_case⟩
end start1
theorem witness_1 : WitnessClaimed_1 := ⟨start1.p0, start1.e0, start1.about1, start1.theMethod, start1.args0, start1.below0, start1.atStart⟩
end Jvm.Pilot.@@N@@
