import JvmDerived
import JvmDerived.Pilot.@@N@@Statement
import JvmDerived.Pilot.@@N@@Code
set_option linter.unusedVariables false
set_option linter.unusedSimpArgs false
namespace Jvm.Pilot.@@N@@
open Jvm Jvm.ClassFile Sem Op Lib Jvm.Free Jvm.Stand Jvm.LawKit Jvm.RoadKit Bundle Jvm.Pilot.@@N@@.Jvm.D
abbrev jv (x : Int64) : Slot := .val (.long x)
section OwnKit
variable {p : Program} {l : Launch} {e : Env} {R : Room} {s : State} {m : MethodId} {args : Array Value} {below : List Frame} {meth : Method} {c : Code} {T T' : State} {locs : List Loc} {cells slots kc ks : Nat} {Q : Option Value → Heap → List Loc → Prop} {g g' : JFrame}
/-- from the state T, its top frame g, the invocation comes to its end with Q -/
def own_WP (p : Program) (e : Env) (below : List Frame) (s : State) (Q : Option Value → Heap → List Loc → Prop) (kc ks : Nat) (T : State) (g : JFrame) : Prop :=
  ∃ s₂ o, Steps p.tables e below (T.setTop g) s₂ ∧ s₂.status = .running ∧ Ended s₂ below o ∧ ∃ v L, o = .returned v ∧ Q v s₂.heap L ∧ FrameEnd s o s₂ L kc ks
theorem own_step (h : ∀ t, Steps p.tables e below (T'.setTop g') t → Steps p.tables e below (T.setTop g) t) (hr : own_WP p e below s Q kc ks T' g') : own_WP p e below s Q kc ks T g := by
  obtain ⟨s₂, o, h1, h2⟩ := hr
  exact ⟨s₂, o, h _ h1, h2⟩
theorem own_st (g' : JFrame) (h : ∀ t, Steps p.tables e below (T.setTop g') t → Steps p.tables e below (T.setTop g) t) (hr : own_WP p e below s Q kc ks T g') : own_WP p e below s Q kc ks T g := own_step h hr
theorem own_jump (h : Steps p.tables e below (T.setTop g) (T'.setTop g')) (hr : own_WP p e below s Q kc ks T' g') : own_WP p e below s Q kc ks T g := by
  obtain ⟨s₂, o, h1, h2⟩ := hr
  exact ⟨s₂, o, h.trans h1, h2⟩
theorem own_ret (X : Stand p l e R s m args below meth c T locs cells slots) (hlk : meth.locks = false) {v : Option Value} (hv : meth.sig.returnType = none → v = none)
    (hst : ∀ fs, (∀ (f : JFrame) (acts : List Action), f.method = m → f.locked = none → f.entered = [] → (doReturn e (T.setTop f) acts v).1 = T.setFrames fs) → Steps p.tables e below (T.setTop g) (T.setFrames fs))
    (hq : Q v T.heap locs) (h1 : cells ≤ kc) (h2 : slots ≤ ks) : own_WP p e below s Q kc ks T g := by
  obtain ⟨fs, hr, hrun, hended, hW, hsame⟩ := X.leave (v := v) hv hlk
  exact ⟨_, _, hst fs hr, hrun, hended, v, locs, rfl, hq, ⟨v, rfl⟩, hW, hsame.mono h1 h2⟩
theorem own_wide (X : Stand p l e R s m args below meth c T locs cells slots) {cells' slots' : Nat} (h1 : cells ≤ cells') (h2 : slots ≤ slots') : Stand p l e R s m args below meth c T locs cells' slots' :=
  ⟨X.admits, X.cas, X.clock, X.frames, X.room, X.hears, X.method, X.code, X.here, X.tail, X.warmed, X.limits, X.bytes, X.same.mono h1 h2⟩
end OwnKit
theorem own_body {l : Launch} {y : MethodName} {bytes : ByteArray} {maxL : Nat} {ret : Option FieldType} {ws : List Jvm.Cond} {rm : Room} {A : Array Value} {Z : State} {h0 : Heap} {Q : Option Value → Heap → List Loc → Prop} {ls : Array Slot} {kc ks : Nat}
    (hpl : plainFor y = true) (ef : ∀ m, entryFrame m A maxL = mkF m 0 ls [])
    (body : ∀ (p : Program) (e : Env) (s : State) (m : MethodId) (below : List Frame) (meth : Method) (c : Code) (T : State), Stand p l e rm s m A below meth c T [] 0 0 → p.tables.exec = Jvm.exec → c.code = bytes → c.maxLocals = maxL → Z.Warmed39 s.vm → s.vm.findClass y.cls = some m.cls → meth.name = y.name → meth.sig.returnType = ret → meth.locks = false → T.heap = h0 →
      own_WP p e below s Q kc ks T (mkF m 0 ls [])) :
    MetFree l y (head1 (Jvm.Cond.code y bytes maxL ret :: ws) rm) (fun a U => a = A ∧ Z.Warmed39 U.vm ∧ U.heap = h0) (fun _ _ _ _ _ => True) (fun _ U o U' => ∃ v L, o = .returned v ∧ Q v U'.heap L ∧ FrameEnd U o U' L kc ks) := by
  refine MetFree.of_bodySF hpl hisR ?_
  intro p e s m args below meth c s₁ Bd hml0 hP hK
  obtain ⟨rfl, hZ, hh⟩ := hP
  obtain ⟨s₂, o, h1, h2⟩ := body p e s m below meth c s₁ (Stand.of_body Bd) Bd.exec Bd.bytes hml0 hZ (findClass_of_methodNamed Bd.named) (name_of_methodNamed Bd.named Bd.method).1 Bd.returns Bd.notSynchronized (by rw [← hh, Bd.state]; rfl)
  exact ⟨s₂, o, castTop (ef m) h1, h2⟩
theorem own_llt1 {x y : Int64} (h : x < y) : ifCond.holds .lt (lcmpW x y) = true := (if0 _ _).trans (tlt ((lw_lt x y).mpr h)).1
theorem own_llt0 {x y : Int64} (h : ¬ x < y) : ifCond.holds .lt (lcmpW x y) = false := (if0 _ _).trans (flt (mt (lw_lt x y).mp h)).1
theorem own_lge1 {x y : Int64} (h : ¬ x < y) : ifCond.holds .ge (lcmpW x y) = true := (if0 _ _).trans (flt (mt (lw_lt x y).mp h)).2.1
theorem own_lge0 {x y : Int64} (h : x < y) : ifCond.holds .ge (lcmpW x y) = false := (if0 _ _).trans (tlt ((lw_lt x y).mpr h)).2.1
theorem own_lgt1 {x y : Int64} (h : y < x) : ifCond.holds .gt (lcmpW x y) = true := (if0 _ _).trans (tlt ((lw_gt x y).mpr h)).2.2.1
theorem own_lgt0 {x y : Int64} (h : ¬ y < x) : ifCond.holds .gt (lcmpW x y) = false := (if0 _ _).trans (flt (mt (lw_gt x y).mp h)).2.2.1
theorem own_lle1 {x y : Int64} (h : ¬ y < x) : ifCond.holds .le (lcmpW x y) = true := (if0 _ _).trans (flt (mt (lw_gt x y).mp h)).2.2.2
theorem own_lle0 {x y : Int64} (h : y < x) : ifCond.holds .le (lcmpW x y) = false := (if0 _ _).trans (tlt ((lw_gt x y).mpr h)).2.2.2
theorem own_leq1 {x y : Int64} (h : x = y) : ifCond.holds .eq (lcmpW x y) = true := (if0 _ _).trans (teq ((lw_eq x y).mpr h)).1
theorem own_leq0 {x y : Int64} (h : ¬ x = y) : ifCond.holds .eq (lcmpW x y) = false := (if0 _ _).trans (feq (mt (lw_eq x y).mp h)).1
theorem own_lne1 {x y : Int64} (h : ¬ x = y) : ifCond.holds .ne (lcmpW x y) = true := (if0 _ _).trans (feq (mt (lw_eq x y).mp h)).2
theorem own_lne0 {x y : Int64} (h : x = y) : ifCond.holds .ne (lcmpW x y) = false := (if0 _ _).trans (teq ((lw_eq x y).mpr h)).2
theorem own_b64 {n : Int} (h1 : -2 ^ 63 ≤ n) (h2 : n < 2 ^ 63) : n.bmod (2 ^ 64) = n := by rw [Int.bmod_def]; omega
theorem own_add64 {x y : Int64} (h1 : -2 ^ 63 ≤ x.toInt + y.toInt) (h2 : x.toInt + y.toInt < 2 ^ 63) : (x + y).toInt = x.toInt + y.toInt := by rw [Int64.toInt_add, own_b64 h1 h2]
theorem own_sub64 {x y : Int64} (h1 : -2 ^ 63 ≤ x.toInt - y.toInt) (h2 : x.toInt - y.toInt < 2 ^ 63) : (x - y).toInt = x.toInt - y.toInt := by rw [Int64.toInt_sub, own_b64 h1 h2]
theorem own_mul64 {x y : Int64} (h1 : -2 ^ 63 ≤ x.toInt * y.toInt) (h2 : x.toInt * y.toInt < 2 ^ 63) : (x * y).toInt = x.toInt * y.toInt := by rw [Int64.toInt_mul, own_b64 h1 h2]
theorem own_div64 {x y : Int64} (hx : 0 ≤ x.toInt) (hy : 0 < y.toInt) : (x / y).toInt = x.toInt / y.toInt := by
  rw [Int64.toInt_div, Int.tdiv_eq_ediv_of_nonneg hx]
  have h1 : 0 ≤ x.toInt / y.toInt := Int.ediv_nonneg hx (by omega)
  have h2 : x.toInt / y.toInt ≤ x.toInt := Int.ediv_le_self _ hx
  have h3 := x.toInt_lt
  exact own_b64 (by omega) (by omega)
theorem own_mod64 {x y : Int64} (hx : 0 ≤ x.toInt) : (x % y).toInt = x.toInt % y.toInt := by
  rw [Int64.toInt_mod, Int.tmod_eq_emod_of_nonneg hx]
theorem own_lrem (x y : Int64) : x - (x / y) * y = x % y := by
  apply Int64.toInt_inj.mp
  have h1 := Int64.le_toInt (x % y)
  have h2 := Int64.toInt_lt (x % y)
  rw [Int64.toInt_sub, Int64.toInt_mul, Int64.toInt_div, Int.bmod_mul_bmod, Int.sub_bmod_bmod, Int.mul_comm (x.toInt.tdiv y.toInt), ← Int.tmod_def, ← Int64.toInt_mod]
  exact Int.bmod_eq_of_le_mul_two (by omega) (by omega)
theorem own_i64nat (v : Int64) : v.toInt = if v.toBitVec.toNat < 2 ^ 63 then (v.toBitVec.toNat : Int) else (v.toBitVec.toNat : Int) - 2 ^ 64 := by
  have := v.toBitVec.isLt
  rw [← Int64.toInt_toBitVec, BitVec.toInt_eq_toNat_cond]
  split <;> split <;> omega
theorem own_i32nat (v : Int32) : v.toInt = if v.toBitVec.toNat < 2 ^ 31 then (v.toBitVec.toNat : Int) else (v.toBitVec.toNat : Int) - 2 ^ 32 := by
  have := v.toBitVec.isLt
  rw [← Int32.toInt_toBitVec, BitVec.toInt_eq_toNat_cond]
  split <;> split <;> omega
/-- a mask of k ones, k at most 31 -/
theorem own_and32 (x m : Int32) {k : Nat} (hk : k ≤ 31) (hm : m.toBitVec.toNat = 2 ^ k - 1) : 0 ≤ (x &&& m).toInt ∧ (x &&& m).toInt < 2 ^ k ∧ (x &&& m).toBitVec.toNat = x.toBitVec.toNat % 2 ^ k := by
  have h1 := own_i32nat (x &&& m)
  have h2 : (x &&& m).toBitVec.toNat = x.toBitVec.toNat &&& m.toBitVec.toNat := rfl
  rw [hm, Nat.and_two_pow_sub_one_eq_mod] at h2
  have h3 : x.toBitVec.toNat % 2 ^ k < 2 ^ k := Nat.mod_lt _ (Nat.two_pow_pos k)
  have h4 : 2 ^ k ≤ 2 ^ 31 := Nat.pow_le_pow_right (by decide) hk
  rw [h2, if_pos (Nat.lt_of_lt_of_le h3 h4)] at h1
  refine ⟨by omega, ?_, h2⟩
  rw [h1]
  exact_mod_cast h3
theorem own_and64 (x m : Int64) {k : Nat} (hk : k ≤ 63) (hm : m.toBitVec.toNat = 2 ^ k - 1) : 0 ≤ (x &&& m).toInt ∧ (x &&& m).toInt < 2 ^ k ∧ (x &&& m).toBitVec.toNat = x.toBitVec.toNat % 2 ^ k := by
  have h1 := own_i64nat (x &&& m)
  have h2 : (x &&& m).toBitVec.toNat = x.toBitVec.toNat &&& m.toBitVec.toNat := rfl
  rw [hm, Nat.and_two_pow_sub_one_eq_mod] at h2
  have h3 : x.toBitVec.toNat % 2 ^ k < 2 ^ k := Nat.mod_lt _ (Nat.two_pow_pos k)
  have h4 : 2 ^ k ≤ 2 ^ 63 := Nat.pow_le_pow_right (by decide) hk
  rw [h2, if_pos (Nat.lt_of_lt_of_le h3 h4)] at h1
  refine ⟨by omega, ?_, h2⟩
  rw [h1]
  exact_mod_cast h3
theorem own_lremM {p : Program} {l : Launch} {e : Env} {R : Room} {s : State} {m : MethodId} {args : Array Value} {below : List Frame} {meth : Method} {c : Code} {T : State} {locs : List Loc} {cells slots : Nat} {g : JFrame} {target : State} (X : Stand p l e R s m args below meth c T locs cells slots) (hx : p.tables.exec = Jvm.exec) (hg : g.method = m) {x y : Int64} {rest : List Value} (hd : decode c.code g.pc = .ok (.lrem, 1)) (hs : g.stack = .long y :: .long x :: rest) (hy : y ≠ 0)
    (hr : Steps p.tables e below (T.setTop { g with pc := g.pc + 1, stack := .long (x % y) :: rest }) target) : Steps p.tables e below (T.setTop g) target :=
  XS.lrem X.here hx hg hd hs hy (by rw [own_lrem]; exact hr)
theorem own_pos_ne {x : Int64} (h : (0 : Int64) < x) : x ≠ 0 := fun q => by rw [q] at h; exact absurd h (by decide)
def own_wsz (n : Int32) : Int64 := ((((((16 : Int64) + (n.toInt64)) + (8 : Int64)) - (1 : Int64)) / (8 : Int64)) * (8 : Int64))
def own_waste (g : Int64) (n : Int32) : Int64 := if (0 : Int64) < g ∧ g / (2 : Int64) < own_wsz n then (((own_wsz n + g) - (1 : Int64)) / g) * g - own_wsz n else 0
def own_sz (n : Int32) : Int64 := if (n.toInt64 + (16 : Int64)) % (8 : Int64) = (0 : Int64) then n.toInt64 + (16 : Int64) else n.toInt64 + (16 : Int64) + ((8 : Int64) - (n.toInt64 + (16 : Int64)) % (8 : Int64))
theorem own_wsz_int (n : Int32) (hn : 0 ≤ n.toInt) : (own_wsz n).toInt = (n.toInt + 23) / 8 * 8 := by
  have h1 := n.toInt_lt
  have e8 : (8 : Int64).toInt = 8 := rfl
  have e1 : (1 : Int64).toInt = 1 := rfl
  have e16 : (16 : Int64).toInt = 16 := rfl
  have a0 : n.toInt64.toInt = n.toInt := Int32.toInt_toInt64 n
  have a1 : ((16 : Int64) + n.toInt64).toInt = 16 + n.toInt := by rw [own_add64 (by omega) (by omega)]; omega
  have a2 : (((16 : Int64) + n.toInt64) + 8).toInt = 24 + n.toInt := by rw [own_add64 (by omega) (by omega)]; omega
  have a3 : ((((16 : Int64) + n.toInt64) + 8) - 1).toInt = 23 + n.toInt := by rw [own_sub64 (by omega) (by omega)]; omega
  have a4 : (((((16 : Int64) + n.toInt64) + 8) - 1) / 8).toInt = (23 + n.toInt) / 8 := by rw [own_div64 (by omega) (by omega), a3, e8]
  unfold own_wsz
  rw [own_mul64 (by rw [a4, e8]; omega) (by rw [a4, e8]; omega), a4, e8]
  omega
theorem own_sz_int (n : Int32) (hn : 0 ≤ n.toInt) : (own_sz n).toInt = (n.toInt + 23) / 8 * 8 := by
  have h1 := n.toInt_lt
  have e8 : (8 : Int64).toInt = 8 := rfl
  have e0 : (0 : Int64).toInt = 0 := rfl
  have e16 : (16 : Int64).toInt = 16 := rfl
  have a0 : n.toInt64.toInt = n.toInt := Int32.toInt_toInt64 n
  have a1 : (n.toInt64 + (16 : Int64)).toInt = n.toInt + 16 := by rw [own_add64 (by omega) (by omega)]; omega
  have a2 : ((n.toInt64 + (16 : Int64)) % 8).toInt = (n.toInt + 16) % 8 := by rw [own_mod64 (by omega), a1, e8]
  have a3 : ((8 : Int64) - (n.toInt64 + (16 : Int64)) % 8).toInt = 8 - (n.toInt + 16) % 8 := by rw [own_sub64 (by omega) (by omega)]; omega
  unfold own_sz
  simp only [← Int64.toInt_inj, a2, e0]
  split
  · rw [a1]; omega
  · rw [own_add64 (by omega) (by omega), a1, a3]; omega
theorem own_ceil (s g : Int) (hs : 0 ≤ s) (hg : 0 < g) : (s + g - 1) / g * g - s = (g - s % g) % g ∧ 0 ≤ (s + g - 1) / g * g ∧ (s + g - 1) / g * g ≤ s + g := by
  have h1 := Int.emod_add_mul_ediv s g
  have h2 := Int.emod_nonneg s (by omega : g ≠ 0)
  have h3 := Int.emod_lt_of_pos s hg
  by_cases h : s % g = 0
  · have h4 : (s + g - 1) / g = s / g := by
      have : s + g - 1 = (g - 1) + (s / g) * g := by rw [h] at h1; rw [Int.mul_comm (s / g) g]; omega
      rw [this, Int.add_mul_ediv_right _ _ (by omega), Int.ediv_eq_zero_of_lt (by omega) (by omega)]; omega
    rw [h4, h, Int.sub_zero, Int.emod_self, Int.mul_comm (s / g) g]
    omega
  · have h4 : (s + g - 1) / g = s / g + 1 := by
      have : s + g - 1 = (s % g - 1) + (s / g + 1) * g := by rw [Int.add_mul, Int.one_mul, Int.mul_comm (s / g) g]; omega
      rw [this, Int.add_mul_ediv_right _ _ (by omega), Int.ediv_eq_zero_of_lt (by omega) (by omega)]; omega
    rw [h4, Int.add_mul, Int.one_mul, Int.mul_comm (s / g) g, Int.emod_eq_of_lt (a := g - s % g) (by omega) (by omega)]
    omega
theorem own_fin (n : Int32) (g : Int64) (hn : 0 ≤ n.toInt) (hg : 0 ≤ g.toInt ∧ g.toInt < 2 ^ 62) : own_waste g n = if (0 : Int64) < g ∧ g < (2 : Int64) * own_sz n then (g - own_sz n % g) % g else 0 := by
  have hs : own_wsz n = own_sz n := Int64.toInt_inj.mp ((own_wsz_int n hn).trans (own_sz_int n hn).symm)
  have h1 := own_sz_int n hn
  have h2 := n.toInt_lt
  unfold own_waste
  rw [hs]
  have e0 : (0 : Int64).toInt = 0 := rfl
  have e1 : (1 : Int64).toInt = 1 := rfl
  have e2 : (2 : Int64).toInt = 2 := rfl
  obtain ⟨hg1, hg2⟩ := hg
  generalize own_sz n = z at *
  have a1 : (g / 2).toInt = g.toInt / 2 := by rw [own_div64 (by omega) (by omega), e2]
  have a2 : ((2 : Int64) * z).toInt = 2 * z.toInt := by rw [own_mul64 (by rw [e2]; omega) (by rw [e2]; omega), e2]
  simp only [Int64.lt_iff_toInt_lt, a1, a2, e0]
  by_cases c1 : 0 < g.toInt
  · by_cases c2 : g.toInt < 2 * z.toInt
    · rw [if_pos ⟨c1, by omega⟩, if_pos ⟨c1, c2⟩]
      obtain ⟨k1, k2, k3⟩ := own_ceil z.toInt g.toInt (by omega) c1
      have b1 : (z + g).toInt = z.toInt + g.toInt := own_add64 (by omega) (by omega)
      have b2 : (z + g - 1).toInt = z.toInt + g.toInt - 1 := by rw [own_sub64 (by omega) (by omega), b1, e1]
      have b3 : ((z + g - 1) / g).toInt = (z.toInt + g.toInt - 1) / g.toInt := by rw [own_div64 (by omega) c1, b2]
      have b4 : ((z + g - 1) / g * g).toInt = (z.toInt + g.toInt - 1) / g.toInt * g.toInt := by rw [own_mul64 (by rw [b3]; omega) (by rw [b3]; omega), b3]
      have b5 : (z % g).toInt = z.toInt % g.toInt := own_mod64 (by omega)
      have b6 := Int.emod_nonneg z.toInt (by omega : g.toInt ≠ 0)
      have b7 := Int.emod_lt_of_pos z.toInt c1
      have b8 : (g - z % g).toInt = g.toInt - z.toInt % g.toInt := by rw [own_sub64 (by omega) (by omega), b5]
      apply Int64.toInt_inj.mp
      rw [own_sub64 (by omega) (by omega), b4, own_mod64 (by omega), b8]
      exact k1
    · rw [if_neg (by omega), if_neg (by omega)]
  · rw [if_neg (by omega), if_neg (by omega)]
theorem own_len (p : Int32) : 0 ≤ (p &&& (2147483647 : Int32)).toInt := (own_and32 p _ (k := 31) (by decide) rfl).1
theorem own_reg (r : Int64) (y : UInt64) : 0 ≤ (((r &&& (4611686018427387903 : Int64)).toUInt64 >>> y).toInt64).toInt ∧ (((r &&& (4611686018427387903 : Int64)).toUInt64 >>> y).toInt64).toInt < 2 ^ 62 := by
  have h1 := (own_and64 r (4611686018427387903 : Int64) (k := 62) (by decide) rfl)
  have h2 := own_i64nat (((r &&& (4611686018427387903 : Int64)).toUInt64 >>> y).toInt64)
  have h3 : (((r &&& (4611686018427387903 : Int64)).toUInt64 >>> y).toInt64).toBitVec.toNat = ((r &&& (4611686018427387903 : Int64)).toUInt64 >>> y).toNat := rfl
  have h4 : ((r &&& (4611686018427387903 : Int64)).toUInt64).toNat = (r &&& (4611686018427387903 : Int64)).toBitVec.toNat := rfl
  rw [UInt64.toNat_shiftRight, Nat.shiftRight_eq_div_pow, h4, h1.2.2] at h3
  have h5 := Nat.div_le_self (r.toBitVec.toNat % 2 ^ 62) (2 ^ (y.toNat % 64))
  have h6 : r.toBitVec.toNat % 2 ^ 62 < 2 ^ 62 := Nat.mod_lt _ (by decide)
  rw [h3] at h2
  generalize r.toBitVec.toNat % 2 ^ 62 / 2 ^ (y.toNat % 64) = k at *
  generalize r.toBitVec.toNat % 2 ^ 62 = k2 at *
  rw [if_pos (by omega)] at h2
  omega

theorem d1_0 : decode prog_7_method_1_code 0 = .ok (.aload_n 0, 1) := by decide +kernel
theorem d1_1 : decode prog_7_method_1_code 1 = .ok (.invokespecial 1, 3) := by decide +kernel
theorem hw_8 {a0 : Array Value} {Z : State} (hw : ∀ d ∈ tables_1, d.before a0 Z = true) : (Jvm.Cond.methodLink "com/example/ictor/ictor/protocol/HeapRegions" (1 : Nat) ({ cls := "java/lang/Object", name := "<init>", desc := "()V" } : Jvm.MethodName)).before a0 Z = true := hw _ (List.mem_of_getElem? (i := 8) rfl)
theorem hw_9 {a0 : Array Value} {Z : State} (hw : ∀ d ∈ tables_1, d.before a0 Z = true) : (Jvm.Cond.instanceMethod ({ cls := "java/lang/Object", name := "<init>", desc := "()V" } : Jvm.MethodName)).before a0 Z = true := hw _ (List.mem_of_getElem? (i := 9) rfl)
theorem hw_10 {a0 : Array Value} {Z : State} (hw : ∀ d ∈ tables_1, d.before a0 Z = true) : (Jvm.Cond.code ({ cls := "java/lang/Object", name := "<init>", desc := "()V" } : Jvm.MethodName) object_method_1_code (1 : Nat) (Option.none : Option Jvm.ClassFile.FieldType)).before a0 Z = true := hw _ (List.mem_of_getElem? (i := 10) rfl)
theorem d1_4 : decode prog_7_method_1_code 4 = .ok (.aload_n 0, 1) := by decide +kernel
theorem d1_5 : decode prog_7_method_1_code 5 = .ok (.lload_n 1, 1) := by decide +kernel
theorem d1_6 : decode prog_7_method_1_code 6 = .ok (.putfield 7, 3) := by decide +kernel
theorem hw_11 {a0 : Array Value} {Z : State} (hw : ∀ d ∈ tables_1, d.before a0 Z = true) : (Jvm.Cond.fieldLink "com/example/ictor/ictor/protocol/HeapRegions" (7 : Nat) "com/example/ictor/ictor/protocol/HeapRegions" "regionSize" "J").before a0 Z = true := hw _ (List.mem_of_getElem? (i := 11) rfl)
theorem hw_12 {a0 : Array Value} {Z : State} (hw : ∀ d ∈ tables_1, d.before a0 Z = true) : (Jvm.Cond.laysFinal "com/example/ictor/ictor/protocol/HeapRegions" "com/example/ictor/ictor/protocol/HeapRegions" "regionSize" "J").before a0 Z = true := hw _ (List.mem_of_getElem? (i := 12) rfl)
theorem hw_3 {a0 : Array Value} {Z : State} (hw : ∀ d ∈ tables_1, d.before a0 Z = true) : (Jvm.Cond.instantiable "com/example/ictor/ictor/protocol/HeapRegions" (1 : Nat)).before a0 Z = true := hw _ (List.mem_of_getElem? (i := 3) rfl)
theorem d1_9 : decode prog_7_method_1_code 9 = .ok (.return_, 1) := by decide +kernel
theorem pn_1 : plainName "com/example/ictor/ictor/protocol/HeapRegions" = true := by first | (simp [plainName, overriddenIn]; done) | decide +kernel
theorem own_ef1 (m : MethodId) (a1 : Addr) (q2 : Int64) : entryFrame m #[(.ref a1), (.long q2)] 3 = mkF m 0 #[rv a1, jv q2, .second] [] := by first | (simp [entryFrame, mkF, argsToLocals, Value.category]; done) | rfl
def own_Q1 (Z : State) (a1 : Addr) (q2 : Int64) (h0 : Heap) (n0 : Nat) (v : Option Value) (h : Heap) (L : List Loc) : Prop := v = none ∧ Fr n0 L ∧ Keep h0 h [a1] ∧ Exa Z h a1 "com/example/ictor/ictor/protocol/HeapRegions" ∧ Fld Z h a1 "com/example/ictor/ictor/protocol/HeapRegions" "regionSize" "J" (.long q2)
set_option maxRecDepth 65536 in
set_option maxHeartbeats 40000000 in
theorem own_rm1 (l : Launch) (Z : State) (a0 : Array Value) (hw : ∀ d ∈ tables_1, d.before a0 Z = true) (ws : List Jvm.Cond) (a1 : Addr) (q2 : Int64) (h0 : Heap) (n0 : Nat) (Z0 : n0 ≤ h0.size) (E_a1 : Exa Z h0 a1 "com/example/ictor/ictor/protocol/HeapRegions") (g_a1 : n0 ≤ a1) (F_regionSize : Fld Z h0 a1 "com/example/ictor/ictor/protocol/HeapRegions" "regionSize" "J" (.long (0 : Int64))) :
    MetFree l (⟨"com/example/ictor/ictor/protocol/HeapRegions", "<init>", "(J)V"⟩ : MethodName) (head1 (Jvm.Cond.code (⟨"com/example/ictor/ictor/protocol/HeapRegions", "<init>", "(J)V"⟩ : MethodName) prog_7_method_1_code 3 none :: ws) ({ frames := 1, cells := 0, slots := 0, locals := 12 } : Room)) (fun a U => a = #[(.ref a1), (.long q2)] ∧ Z.Warmed39 U.vm ∧ U.heap = h0) (fun _ _ _ _ _ => True) (fun _ U o U' => ∃ v L, o = .returned v ∧ own_Q1 Z a1 q2 h0 n0 v U'.heap L ∧ FrameEnd U o U' L ({ frames := 1, cells := 0, slots := 0, locals := 12 } : Room).cells ({ frames := 1, cells := 0, slots := 0, locals := 12 } : Room).slots) := by
  refine own_body (plainFor_of_name pn_1) (fun m => own_ef1 m a1 q2) ?_
  intro p e s m below meth c T0 X0 hx hby hml hZ hown hnm hret hlk e0
  have hown : s.vm.findClass "com/example/ictor/ictor/protocol/HeapRegions" = some m.cls := hown
  have hnm : meth.name = "<init>" := hnm
  have N0 := Fr.nil n0
  have K0 : Keep h0 h0 [a1] := Keep.refl _ _
  refine own_st (mkF m 1 #[rv a1, jv q2, .second] [(.ref a1)]) (fun t k => XS.aloadN X0.here hx rfl (hb hby d1_0) rfl rfl k) ?_
  obtain ⟨T1, X1, e1, st1⟩ := initO X0 hx hZ hown (hw_8 hw) (hw_9 hw) (hw_10 hw) e0 (g := (mkF m 1 #[rv a1, jv q2, .second] [(.ref a1)])) rfl (by rw [hml]; rfl) rfl (hb hby d1_1) (by decide) (W := 0) (by show 2 * 0 + _ ≤ _; exact Nat.le_of_eq rfl) (by decide)
  refine own_step (g' := (mkF m 4 #[rv a1, jv q2, .second] [])) st1 ?_
  refine own_st (mkF m 5 #[rv a1, jv q2, .second] [(.ref a1)]) (fun t k => XS.aloadN X1.here hx rfl (hb hby d1_4) rfl rfl k) ?_
  refine own_st (mkF m 6 #[rv a1, jv q2, .second] [(.long q2), (.ref a1)]) (fun t k => XS.lloadN X1.here hx rfl (hb hby d1_5) rfl k) ?_
  obtain ⟨T2, h2, X2, e2, W2, st2⟩ := putF X1 hx hZ hown (host := "") (Or.inl (hw_11 hw)) Via.refl e1 F_regionSize E_a1 (Or.inr ⟨(hw_12 hw), rfl, hnm⟩) (hw_3 hw) (ty := .long) (by decide) rfl rfl (g := (mkF m 6 #[rv a1, jv q2, .second] [(.long q2), (.ref a1)])) rfl rfl (hb hby d1_6)
  have f1_Exa_a1 : Exa Z h2 a1 "com/example/ictor/ictor/protocol/HeapRegions" := (E_a1.wr W2)
  have fw2 : Fld Z h2 a1 "com/example/ictor/ictor/protocol/HeapRegions" "regionSize" "J" (.long q2) := F_regionSize.same W2
  have Z2 : n0 ≤ h2.size := Nat.le_trans Z0 (Keep.of_wr W2).1
  have Kp2 : Keep h0 h2 [a1] := K0.wr W2 (Or.inl (List.mem_of_getElem? (i := 0) rfl))
  have N2 := Fr.snoc X2 N0 g_a1
  refine own_step (g' := (mkF m 9 #[rv a1, jv q2, .second] [])) st2 ?_
  refine own_ret X2 hlk (v := none) (fun _ => rfl) (fun fs hr => X2.returnOut hx hret (hb hby d1_9) hr) ?_ (by decide) (by decide)
  show own_Q1 Z a1 q2 h0 n0 _ T2.heap _
  rw [e2]
  exact ⟨rfl, N2, Kp2, f1_Exa_a1, fw2⟩
theorem d3_0 : decode prog_7_method_3_code 0 = .ok (.ldc2_w 56, 3) := by decide +kernel
theorem hw_18 {a0 : Array Value} {Z : State} (hw : ∀ d ∈ tables_1, d.before a0 Z = true) : (Jvm.Cond.constantLong "com/example/ictor/ictor/protocol/HeapRegions" (56 : Nat) (16 : Int64)).before a0 Z = true := hw _ (List.mem_of_getElem? (i := 18) rfl)
theorem d3_3 : decode prog_7_method_3_code 3 = .ok (.iload_n 1, 1) := by decide +kernel
theorem d3_4 : decode prog_7_method_3_code 4 = .ok (.i2l, 1) := by decide +kernel
theorem d3_5 : decode prog_7_method_3_code 5 = .ok (.ladd, 1) := by decide +kernel
theorem d3_6 : decode prog_7_method_3_code 6 = .ok (.lstore_n 2, 1) := by decide +kernel
theorem d3_7 : decode prog_7_method_3_code 7 = .ok (.lload_n 2, 1) := by decide +kernel
theorem d3_8 : decode prog_7_method_3_code 8 = .ok (.ldc2_w 58, 3) := by decide +kernel
theorem hw_19 {a0 : Array Value} {Z : State} (hw : ∀ d ∈ tables_1, d.before a0 Z = true) : (Jvm.Cond.constantLong "com/example/ictor/ictor/protocol/HeapRegions" (58 : Nat) (8 : Int64)).before a0 Z = true := hw _ (List.mem_of_getElem? (i := 19) rfl)
theorem d3_11 : decode prog_7_method_3_code 11 = .ok (.ladd, 1) := by decide +kernel
theorem d3_12 : decode prog_7_method_3_code 12 = .ok (.lconst 1, 1) := by decide +kernel
theorem d3_13 : decode prog_7_method_3_code 13 = .ok (.lsub, 1) := by decide +kernel
theorem d3_14 : decode prog_7_method_3_code 14 = .ok (.ldc2_w 58, 3) := by decide +kernel
theorem d3_17 : decode prog_7_method_3_code 17 = .ok (.ldiv, 1) := by decide +kernel
theorem d3_18 : decode prog_7_method_3_code 18 = .ok (.ldc2_w 58, 3) := by decide +kernel
theorem d3_21 : decode prog_7_method_3_code 21 = .ok (.lmul, 1) := by decide +kernel
theorem d3_22 : decode prog_7_method_3_code 22 = .ok (.lstore_n 2, 1) := by decide +kernel
theorem d3_23 : decode prog_7_method_3_code 23 = .ok (.lconst 0, 1) := by decide +kernel
theorem d3_24 : decode prog_7_method_3_code 24 = .ok (.lstore 4, 2) := by decide +kernel
theorem d3_26 : decode prog_7_method_3_code 26 = .ok (.aload_n 0, 1) := by decide +kernel
theorem d3_27 : decode prog_7_method_3_code 27 = .ok (.getfield 7, 3) := by decide +kernel
theorem d3_30 : decode prog_7_method_3_code 30 = .ok (.lconst 0, 1) := by decide +kernel
theorem d3_31 : decode prog_7_method_3_code 31 = .ok (.lcmp, 1) := by decide +kernel
theorem d3_32 : decode prog_7_method_3_code 32 = .ok (.ifCond .le 42, 3) := by decide +kernel
theorem d3_35 : decode prog_7_method_3_code 35 = .ok (.lload_n 2, 1) := by decide +kernel
theorem d3_36 : decode prog_7_method_3_code 36 = .ok (.aload_n 0, 1) := by decide +kernel
theorem d3_37 : decode prog_7_method_3_code 37 = .ok (.getfield 7, 3) := by decide +kernel
theorem d3_40 : decode prog_7_method_3_code 40 = .ok (.ldc2_w 60, 3) := by decide +kernel
theorem hw_20 {a0 : Array Value} {Z : State} (hw : ∀ d ∈ tables_1, d.before a0 Z = true) : (Jvm.Cond.constantLong "com/example/ictor/ictor/protocol/HeapRegions" (60 : Nat) (2 : Int64)).before a0 Z = true := hw _ (List.mem_of_getElem? (i := 20) rfl)
theorem d3_43 : decode prog_7_method_3_code 43 = .ok (.ldiv, 1) := by decide +kernel
theorem d3_44 : decode prog_7_method_3_code 44 = .ok (.lcmp, 1) := by decide +kernel
theorem d3_45 : decode prog_7_method_3_code 45 = .ok (.ifCond .le 29, 3) := by decide +kernel
theorem d3_48 : decode prog_7_method_3_code 48 = .ok (.lload_n 2, 1) := by decide +kernel
theorem d3_49 : decode prog_7_method_3_code 49 = .ok (.aload_n 0, 1) := by decide +kernel
theorem d3_50 : decode prog_7_method_3_code 50 = .ok (.getfield 7, 3) := by decide +kernel
theorem d3_53 : decode prog_7_method_3_code 53 = .ok (.ladd, 1) := by decide +kernel
theorem d3_54 : decode prog_7_method_3_code 54 = .ok (.lconst 1, 1) := by decide +kernel
theorem d3_55 : decode prog_7_method_3_code 55 = .ok (.lsub, 1) := by decide +kernel
theorem d3_56 : decode prog_7_method_3_code 56 = .ok (.aload_n 0, 1) := by decide +kernel
theorem d3_57 : decode prog_7_method_3_code 57 = .ok (.getfield 7, 3) := by decide +kernel
theorem d3_60 : decode prog_7_method_3_code 60 = .ok (.ldiv, 1) := by decide +kernel
theorem d3_61 : decode prog_7_method_3_code 61 = .ok (.lstore 6, 2) := by decide +kernel
theorem d3_63 : decode prog_7_method_3_code 63 = .ok (.lload 6, 2) := by decide +kernel
theorem d3_65 : decode prog_7_method_3_code 65 = .ok (.aload_n 0, 1) := by decide +kernel
theorem d3_66 : decode prog_7_method_3_code 66 = .ok (.getfield 7, 3) := by decide +kernel
theorem d3_69 : decode prog_7_method_3_code 69 = .ok (.lmul, 1) := by decide +kernel
theorem d3_70 : decode prog_7_method_3_code 70 = .ok (.lload_n 2, 1) := by decide +kernel
theorem d3_71 : decode prog_7_method_3_code 71 = .ok (.lsub, 1) := by decide +kernel
theorem d3_72 : decode prog_7_method_3_code 72 = .ok (.lstore 4, 2) := by decide +kernel
theorem d3_74 : decode prog_7_method_3_code 74 = .ok (.lload 4, 2) := by decide +kernel
theorem d3_76 : decode prog_7_method_3_code 76 = .ok (.lreturn, 1) := by decide +kernel
theorem own_ef3 (m : MethodId) (a1 : Addr) (p2 : Int32) : entryFrame m #[(.ref a1), (.int p2)] 8 = mkF m 0 #[rv a1, iv p2, .unset, .unset, .unset, .unset, .unset, .unset] [] := by first | (simp [entryFrame, mkF, argsToLocals, Value.category]; done) | rfl
def own_Q3 (Z : State) (a1 : Addr) (p2 : Int32) (g3 : Int64) (h0 : Heap) (n0 : Nat) (v : Option Value) (h : Heap) (L : List Loc) : Prop := v = some (.long (own_waste g3 p2)) ∧ Fr n0 L ∧ h = h0
set_option maxRecDepth 65536 in
set_option maxHeartbeats 40000000 in
theorem own_rm3 (l : Launch) (Z : State) (a0 : Array Value) (hw : ∀ d ∈ tables_1, d.before a0 Z = true) (ws : List Jvm.Cond) (a1 : Addr) (p2 : Int32) (g3 : Int64) (h0 : Heap) (n0 : Nat) (Z0 : n0 ≤ h0.size) (F_r : Fld Z h0 a1 "com/example/ictor/ictor/protocol/HeapRegions" "regionSize" "J" (.long g3)) :
    MetFree l (⟨"com/example/ictor/ictor/protocol/HeapRegions", "waste", "(I)J"⟩ : MethodName) (head1 (Jvm.Cond.code (⟨"com/example/ictor/ictor/protocol/HeapRegions", "waste", "(I)J"⟩ : MethodName) prog_7_method_3_code 8 (some .long) :: ws) ({ frames := 0, cells := 0, slots := 0, locals := 0 } : Room)) (fun a U => a = #[(.ref a1), (.int p2)] ∧ Z.Warmed39 U.vm ∧ U.heap = h0) (fun _ _ _ _ _ => True) (fun _ U o U' => ∃ v L, o = .returned v ∧ own_Q3 Z a1 p2 g3 h0 n0 v U'.heap L ∧ FrameEnd U o U' L ({ frames := 0, cells := 0, slots := 0, locals := 0 } : Room).cells ({ frames := 0, cells := 0, slots := 0, locals := 0 } : Room).slots) := by
  refine own_body (plainFor_of_name pn_1) (fun m => own_ef3 m a1 p2) ?_
  intro p e s m below meth c T0 X0 hx hby hml hZ hown hnm hret hlk e0
  have hown : s.vm.findClass "com/example/ictor/ictor/protocol/HeapRegions" = some m.cls := hown
  have hnm : meth.name = "waste" := hnm
  have N0 := Fr.nil n0
  refine own_st (mkF m 3 #[rv a1, iv p2, .unset, .unset, .unset, .unset, .unset, .unset] [(.long (16 : Int64))]) (fun t k => X0.ldc2Long hx hown (mvT hZ (hw_18 hw)) (g := (mkF m 0 #[rv a1, iv p2, .unset, .unset, .unset, .unset, .unset, .unset] [])) rfl (hb hby d3_0) _ k) ?_
  refine own_st (mkF m 4 #[rv a1, iv p2, .unset, .unset, .unset, .unset, .unset, .unset] [(.int p2), (.long (16 : Int64))]) (fun t k => XS.iloadN X0.here hx rfl (hb hby d3_3) rfl k) ?_
  refine own_st (mkF m 5 #[rv a1, iv p2, .unset, .unset, .unset, .unset, .unset, .unset] [(.long (p2.toInt64)), (.long (16 : Int64))]) (fun t k => XS.i2l X0.here hx rfl (hb hby d3_4) rfl k) ?_
  refine own_st (mkF m 6 #[rv a1, iv p2, .unset, .unset, .unset, .unset, .unset, .unset] [(.long ((16 : Int64) + (p2.toInt64)))]) (fun t k => XS.ladd X0.here hx rfl (hb hby d3_5) rfl k) ?_
  refine own_st (mkF m 7 #[rv a1, iv p2, jv ((16 : Int64) + (p2.toInt64)), .second, .unset, .unset, .unset, .unset] []) (fun t k => XS.lstoreN X0.here hx rfl (hb hby d3_6) rfl (l' := #[rv a1, iv p2, jv ((16 : Int64) + (p2.toInt64)), .second, .unset, .unset, .unset, .unset]) rfl k) ?_
  refine own_st (mkF m 8 #[rv a1, iv p2, jv ((16 : Int64) + (p2.toInt64)), .second, .unset, .unset, .unset, .unset] [(.long ((16 : Int64) + (p2.toInt64)))]) (fun t k => XS.lloadN X0.here hx rfl (hb hby d3_7) rfl k) ?_
  refine own_st (mkF m 11 #[rv a1, iv p2, jv ((16 : Int64) + (p2.toInt64)), .second, .unset, .unset, .unset, .unset] [(.long (8 : Int64)), (.long ((16 : Int64) + (p2.toInt64)))]) (fun t k => X0.ldc2Long hx hown (mvT hZ (hw_19 hw)) (g := (mkF m 8 #[rv a1, iv p2, jv ((16 : Int64) + (p2.toInt64)), .second, .unset, .unset, .unset, .unset] [(.long ((16 : Int64) + (p2.toInt64)))])) rfl (hb hby d3_8) _ k) ?_
  refine own_st (mkF m 12 #[rv a1, iv p2, jv ((16 : Int64) + (p2.toInt64)), .second, .unset, .unset, .unset, .unset] [(.long (((16 : Int64) + (p2.toInt64)) + (8 : Int64)))]) (fun t k => XS.ladd X0.here hx rfl (hb hby d3_11) rfl k) ?_
  refine own_st (mkF m 13 #[rv a1, iv p2, jv ((16 : Int64) + (p2.toInt64)), .second, .unset, .unset, .unset, .unset] [(.long (1 : Int64)), (.long (((16 : Int64) + (p2.toInt64)) + (8 : Int64)))]) (fun t k => XS.lconst X0.here hx rfl (hb hby d3_12) k) ?_
  refine own_st (mkF m 14 #[rv a1, iv p2, jv ((16 : Int64) + (p2.toInt64)), .second, .unset, .unset, .unset, .unset] [(.long ((((16 : Int64) + (p2.toInt64)) + (8 : Int64)) - (1 : Int64)))]) (fun t k => XS.lsub X0.here hx rfl (hb hby d3_13) rfl k) ?_
  refine own_st (mkF m 17 #[rv a1, iv p2, jv ((16 : Int64) + (p2.toInt64)), .second, .unset, .unset, .unset, .unset] [(.long (8 : Int64)), (.long ((((16 : Int64) + (p2.toInt64)) + (8 : Int64)) - (1 : Int64)))]) (fun t k => X0.ldc2Long hx hown (mvT hZ (hw_19 hw)) (g := (mkF m 14 #[rv a1, iv p2, jv ((16 : Int64) + (p2.toInt64)), .second, .unset, .unset, .unset, .unset] [(.long ((((16 : Int64) + (p2.toInt64)) + (8 : Int64)) - (1 : Int64)))])) rfl (hb hby d3_14) _ k) ?_
  refine own_st (mkF m 18 #[rv a1, iv p2, jv ((16 : Int64) + (p2.toInt64)), .second, .unset, .unset, .unset, .unset] [(.long (((((16 : Int64) + (p2.toInt64)) + (8 : Int64)) - (1 : Int64)) / (8 : Int64)))]) (fun t k => XS.ldiv X0.here hx rfl (hb hby d3_17) rfl (by decide) k) ?_
  refine own_st (mkF m 21 #[rv a1, iv p2, jv ((16 : Int64) + (p2.toInt64)), .second, .unset, .unset, .unset, .unset] [(.long (8 : Int64)), (.long (((((16 : Int64) + (p2.toInt64)) + (8 : Int64)) - (1 : Int64)) / (8 : Int64)))]) (fun t k => X0.ldc2Long hx hown (mvT hZ (hw_19 hw)) (g := (mkF m 18 #[rv a1, iv p2, jv ((16 : Int64) + (p2.toInt64)), .second, .unset, .unset, .unset, .unset] [(.long (((((16 : Int64) + (p2.toInt64)) + (8 : Int64)) - (1 : Int64)) / (8 : Int64)))])) rfl (hb hby d3_18) _ k) ?_
  refine own_st (mkF m 22 #[rv a1, iv p2, jv ((16 : Int64) + (p2.toInt64)), .second, .unset, .unset, .unset, .unset] [(.long ((((((16 : Int64) + (p2.toInt64)) + (8 : Int64)) - (1 : Int64)) / (8 : Int64)) * (8 : Int64)))]) (fun t k => XS.lmul X0.here hx rfl (hb hby d3_21) rfl k) ?_
  refine own_st (mkF m 23 #[rv a1, iv p2, jv ((((((16 : Int64) + (p2.toInt64)) + (8 : Int64)) - (1 : Int64)) / (8 : Int64)) * (8 : Int64)), .second, .unset, .unset, .unset, .unset] []) (fun t k => XS.lstoreN X0.here hx rfl (hb hby d3_22) rfl (l' := #[rv a1, iv p2, jv ((((((16 : Int64) + (p2.toInt64)) + (8 : Int64)) - (1 : Int64)) / (8 : Int64)) * (8 : Int64)), .second, .unset, .unset, .unset, .unset]) rfl k) ?_
  refine own_st (mkF m 24 #[rv a1, iv p2, jv ((((((16 : Int64) + (p2.toInt64)) + (8 : Int64)) - (1 : Int64)) / (8 : Int64)) * (8 : Int64)), .second, .unset, .unset, .unset, .unset] [(.long (0 : Int64))]) (fun t k => XS.lconst X0.here hx rfl (hb hby d3_23) k) ?_
  refine own_st (mkF m 26 #[rv a1, iv p2, jv ((((((16 : Int64) + (p2.toInt64)) + (8 : Int64)) - (1 : Int64)) / (8 : Int64)) * (8 : Int64)), .second, jv (0 : Int64), .second, .unset, .unset] []) (fun t k => XS.lstore X0.here hx rfl (hb hby d3_24) rfl (l' := #[rv a1, iv p2, jv ((((((16 : Int64) + (p2.toInt64)) + (8 : Int64)) - (1 : Int64)) / (8 : Int64)) * (8 : Int64)), .second, jv (0 : Int64), .second, .unset, .unset]) rfl k) ?_
  refine own_st (mkF m 27 #[rv a1, iv p2, jv ((((((16 : Int64) + (p2.toInt64)) + (8 : Int64)) - (1 : Int64)) / (8 : Int64)) * (8 : Int64)), .second, jv (0 : Int64), .second, .unset, .unset] [(.ref a1)]) (fun t k => XS.aloadN X0.here hx rfl (hb hby d3_26) rfl rfl k) ?_
  obtain ⟨T3, X3, e3, st3⟩ := getF X0 hx hZ hown (host := "") (Or.inl (hw_11 hw)) Via.refl e0 F_r (g := (mkF m 27 #[rv a1, iv p2, jv ((((((16 : Int64) + (p2.toInt64)) + (8 : Int64)) - (1 : Int64)) / (8 : Int64)) * (8 : Int64)), .second, jv (0 : Int64), .second, .unset, .unset] [(.ref a1)])) rfl rfl (hb hby d3_27)
  refine own_step (g' := (mkF m 30 #[rv a1, iv p2, jv ((((((16 : Int64) + (p2.toInt64)) + (8 : Int64)) - (1 : Int64)) / (8 : Int64)) * (8 : Int64)), .second, jv (0 : Int64), .second, .unset, .unset] [(.long g3)])) st3 ?_
  refine own_st (mkF m 31 #[rv a1, iv p2, jv ((((((16 : Int64) + (p2.toInt64)) + (8 : Int64)) - (1 : Int64)) / (8 : Int64)) * (8 : Int64)), .second, jv (0 : Int64), .second, .unset, .unset] [(.long (0 : Int64)), (.long g3)]) (fun t k => XS.lconst X3.here hx rfl (hb hby d3_30) k) ?_
  refine own_st (mkF m 32 #[rv a1, iv p2, jv ((((((16 : Int64) + (p2.toInt64)) + (8 : Int64)) - (1 : Int64)) / (8 : Int64)) * (8 : Int64)), .second, jv (0 : Int64), .second, .unset, .unset] [(.int (lcmpW g3 (0 : Int64)))]) (fun t k => XS.lcmp X3.here hx rfl (hb hby d3_31) rfl k) ?_
  by_cases hc4 : (0 : Int64) < g3
  · refine own_st (mkF m 35 #[rv a1, iv p2, jv ((((((16 : Int64) + (p2.toInt64)) + (8 : Int64)) - (1 : Int64)) / (8 : Int64)) * (8 : Int64)), .second, jv (0 : Int64), .second, .unset, .unset] []) (fun t k => XS.ifNo X3.here hx rfl (hb hby d3_32) rfl (own_lle0 hc4) k) ?_
    refine own_st (mkF m 36 #[rv a1, iv p2, jv ((((((16 : Int64) + (p2.toInt64)) + (8 : Int64)) - (1 : Int64)) / (8 : Int64)) * (8 : Int64)), .second, jv (0 : Int64), .second, .unset, .unset] [(.long ((((((16 : Int64) + (p2.toInt64)) + (8 : Int64)) - (1 : Int64)) / (8 : Int64)) * (8 : Int64)))]) (fun t k => XS.lloadN X3.here hx rfl (hb hby d3_35) rfl k) ?_
    refine own_st (mkF m 37 #[rv a1, iv p2, jv ((((((16 : Int64) + (p2.toInt64)) + (8 : Int64)) - (1 : Int64)) / (8 : Int64)) * (8 : Int64)), .second, jv (0 : Int64), .second, .unset, .unset] [(.ref a1), (.long ((((((16 : Int64) + (p2.toInt64)) + (8 : Int64)) - (1 : Int64)) / (8 : Int64)) * (8 : Int64)))]) (fun t k => XS.aloadN X3.here hx rfl (hb hby d3_36) rfl rfl k) ?_
    obtain ⟨T5, X5, e5, st5⟩ := getF X3 hx hZ hown (host := "") (Or.inl (hw_11 hw)) Via.refl e3 F_r (g := (mkF m 37 #[rv a1, iv p2, jv ((((((16 : Int64) + (p2.toInt64)) + (8 : Int64)) - (1 : Int64)) / (8 : Int64)) * (8 : Int64)), .second, jv (0 : Int64), .second, .unset, .unset] [(.ref a1), (.long ((((((16 : Int64) + (p2.toInt64)) + (8 : Int64)) - (1 : Int64)) / (8 : Int64)) * (8 : Int64)))])) rfl rfl (hb hby d3_37)
    refine own_step (g' := (mkF m 40 #[rv a1, iv p2, jv ((((((16 : Int64) + (p2.toInt64)) + (8 : Int64)) - (1 : Int64)) / (8 : Int64)) * (8 : Int64)), .second, jv (0 : Int64), .second, .unset, .unset] [(.long g3), (.long ((((((16 : Int64) + (p2.toInt64)) + (8 : Int64)) - (1 : Int64)) / (8 : Int64)) * (8 : Int64)))])) st5 ?_
    refine own_st (mkF m 43 #[rv a1, iv p2, jv ((((((16 : Int64) + (p2.toInt64)) + (8 : Int64)) - (1 : Int64)) / (8 : Int64)) * (8 : Int64)), .second, jv (0 : Int64), .second, .unset, .unset] [(.long (2 : Int64)), (.long g3), (.long ((((((16 : Int64) + (p2.toInt64)) + (8 : Int64)) - (1 : Int64)) / (8 : Int64)) * (8 : Int64)))]) (fun t k => X5.ldc2Long hx hown (mvT hZ (hw_20 hw)) (g := (mkF m 40 #[rv a1, iv p2, jv ((((((16 : Int64) + (p2.toInt64)) + (8 : Int64)) - (1 : Int64)) / (8 : Int64)) * (8 : Int64)), .second, jv (0 : Int64), .second, .unset, .unset] [(.long g3), (.long ((((((16 : Int64) + (p2.toInt64)) + (8 : Int64)) - (1 : Int64)) / (8 : Int64)) * (8 : Int64)))])) rfl (hb hby d3_40) _ k) ?_
    refine own_st (mkF m 44 #[rv a1, iv p2, jv ((((((16 : Int64) + (p2.toInt64)) + (8 : Int64)) - (1 : Int64)) / (8 : Int64)) * (8 : Int64)), .second, jv (0 : Int64), .second, .unset, .unset] [(.long (g3 / (2 : Int64))), (.long ((((((16 : Int64) + (p2.toInt64)) + (8 : Int64)) - (1 : Int64)) / (8 : Int64)) * (8 : Int64)))]) (fun t k => XS.ldiv X5.here hx rfl (hb hby d3_43) rfl (by decide) k) ?_
    refine own_st (mkF m 45 #[rv a1, iv p2, jv ((((((16 : Int64) + (p2.toInt64)) + (8 : Int64)) - (1 : Int64)) / (8 : Int64)) * (8 : Int64)), .second, jv (0 : Int64), .second, .unset, .unset] [(.int (lcmpW ((((((16 : Int64) + (p2.toInt64)) + (8 : Int64)) - (1 : Int64)) / (8 : Int64)) * (8 : Int64)) (g3 / (2 : Int64))))]) (fun t k => XS.lcmp X5.here hx rfl (hb hby d3_44) rfl k) ?_
    by_cases hc6 : (g3 / (2 : Int64)) < ((((((16 : Int64) + (p2.toInt64)) + (8 : Int64)) - (1 : Int64)) / (8 : Int64)) * (8 : Int64))
    · refine own_st (mkF m 48 #[rv a1, iv p2, jv ((((((16 : Int64) + (p2.toInt64)) + (8 : Int64)) - (1 : Int64)) / (8 : Int64)) * (8 : Int64)), .second, jv (0 : Int64), .second, .unset, .unset] []) (fun t k => XS.ifNo X5.here hx rfl (hb hby d3_45) rfl (own_lle0 hc6) k) ?_
      refine own_st (mkF m 49 #[rv a1, iv p2, jv ((((((16 : Int64) + (p2.toInt64)) + (8 : Int64)) - (1 : Int64)) / (8 : Int64)) * (8 : Int64)), .second, jv (0 : Int64), .second, .unset, .unset] [(.long ((((((16 : Int64) + (p2.toInt64)) + (8 : Int64)) - (1 : Int64)) / (8 : Int64)) * (8 : Int64)))]) (fun t k => XS.lloadN X5.here hx rfl (hb hby d3_48) rfl k) ?_
      refine own_st (mkF m 50 #[rv a1, iv p2, jv ((((((16 : Int64) + (p2.toInt64)) + (8 : Int64)) - (1 : Int64)) / (8 : Int64)) * (8 : Int64)), .second, jv (0 : Int64), .second, .unset, .unset] [(.ref a1), (.long ((((((16 : Int64) + (p2.toInt64)) + (8 : Int64)) - (1 : Int64)) / (8 : Int64)) * (8 : Int64)))]) (fun t k => XS.aloadN X5.here hx rfl (hb hby d3_49) rfl rfl k) ?_
      obtain ⟨T7, X7, e7, st7⟩ := getF X5 hx hZ hown (host := "") (Or.inl (hw_11 hw)) Via.refl e5 F_r (g := (mkF m 50 #[rv a1, iv p2, jv ((((((16 : Int64) + (p2.toInt64)) + (8 : Int64)) - (1 : Int64)) / (8 : Int64)) * (8 : Int64)), .second, jv (0 : Int64), .second, .unset, .unset] [(.ref a1), (.long ((((((16 : Int64) + (p2.toInt64)) + (8 : Int64)) - (1 : Int64)) / (8 : Int64)) * (8 : Int64)))])) rfl rfl (hb hby d3_50)
      refine own_step (g' := (mkF m 53 #[rv a1, iv p2, jv ((((((16 : Int64) + (p2.toInt64)) + (8 : Int64)) - (1 : Int64)) / (8 : Int64)) * (8 : Int64)), .second, jv (0 : Int64), .second, .unset, .unset] [(.long g3), (.long ((((((16 : Int64) + (p2.toInt64)) + (8 : Int64)) - (1 : Int64)) / (8 : Int64)) * (8 : Int64)))])) st7 ?_
      refine own_st (mkF m 54 #[rv a1, iv p2, jv ((((((16 : Int64) + (p2.toInt64)) + (8 : Int64)) - (1 : Int64)) / (8 : Int64)) * (8 : Int64)), .second, jv (0 : Int64), .second, .unset, .unset] [(.long (((((((16 : Int64) + (p2.toInt64)) + (8 : Int64)) - (1 : Int64)) / (8 : Int64)) * (8 : Int64)) + g3))]) (fun t k => XS.ladd X7.here hx rfl (hb hby d3_53) rfl k) ?_
      refine own_st (mkF m 55 #[rv a1, iv p2, jv ((((((16 : Int64) + (p2.toInt64)) + (8 : Int64)) - (1 : Int64)) / (8 : Int64)) * (8 : Int64)), .second, jv (0 : Int64), .second, .unset, .unset] [(.long (1 : Int64)), (.long (((((((16 : Int64) + (p2.toInt64)) + (8 : Int64)) - (1 : Int64)) / (8 : Int64)) * (8 : Int64)) + g3))]) (fun t k => XS.lconst X7.here hx rfl (hb hby d3_54) k) ?_
      refine own_st (mkF m 56 #[rv a1, iv p2, jv ((((((16 : Int64) + (p2.toInt64)) + (8 : Int64)) - (1 : Int64)) / (8 : Int64)) * (8 : Int64)), .second, jv (0 : Int64), .second, .unset, .unset] [(.long ((((((((16 : Int64) + (p2.toInt64)) + (8 : Int64)) - (1 : Int64)) / (8 : Int64)) * (8 : Int64)) + g3) - (1 : Int64)))]) (fun t k => XS.lsub X7.here hx rfl (hb hby d3_55) rfl k) ?_
      refine own_st (mkF m 57 #[rv a1, iv p2, jv ((((((16 : Int64) + (p2.toInt64)) + (8 : Int64)) - (1 : Int64)) / (8 : Int64)) * (8 : Int64)), .second, jv (0 : Int64), .second, .unset, .unset] [(.ref a1), (.long ((((((((16 : Int64) + (p2.toInt64)) + (8 : Int64)) - (1 : Int64)) / (8 : Int64)) * (8 : Int64)) + g3) - (1 : Int64)))]) (fun t k => XS.aloadN X7.here hx rfl (hb hby d3_56) rfl rfl k) ?_
      obtain ⟨T8, X8, e8, st8⟩ := getF X7 hx hZ hown (host := "") (Or.inl (hw_11 hw)) Via.refl e7 F_r (g := (mkF m 57 #[rv a1, iv p2, jv ((((((16 : Int64) + (p2.toInt64)) + (8 : Int64)) - (1 : Int64)) / (8 : Int64)) * (8 : Int64)), .second, jv (0 : Int64), .second, .unset, .unset] [(.ref a1), (.long ((((((((16 : Int64) + (p2.toInt64)) + (8 : Int64)) - (1 : Int64)) / (8 : Int64)) * (8 : Int64)) + g3) - (1 : Int64)))])) rfl rfl (hb hby d3_57)
      refine own_step (g' := (mkF m 60 #[rv a1, iv p2, jv ((((((16 : Int64) + (p2.toInt64)) + (8 : Int64)) - (1 : Int64)) / (8 : Int64)) * (8 : Int64)), .second, jv (0 : Int64), .second, .unset, .unset] [(.long g3), (.long ((((((((16 : Int64) + (p2.toInt64)) + (8 : Int64)) - (1 : Int64)) / (8 : Int64)) * (8 : Int64)) + g3) - (1 : Int64)))])) st8 ?_
      refine own_st (mkF m 61 #[rv a1, iv p2, jv ((((((16 : Int64) + (p2.toInt64)) + (8 : Int64)) - (1 : Int64)) / (8 : Int64)) * (8 : Int64)), .second, jv (0 : Int64), .second, .unset, .unset] [(.long (((((((((16 : Int64) + (p2.toInt64)) + (8 : Int64)) - (1 : Int64)) / (8 : Int64)) * (8 : Int64)) + g3) - (1 : Int64)) / g3))]) (fun t k => XS.ldiv X8.here hx rfl (hb hby d3_60) rfl (own_pos_ne hc4) k) ?_
      refine own_st (mkF m 63 #[rv a1, iv p2, jv ((((((16 : Int64) + (p2.toInt64)) + (8 : Int64)) - (1 : Int64)) / (8 : Int64)) * (8 : Int64)), .second, jv (0 : Int64), .second, jv (((((((((16 : Int64) + (p2.toInt64)) + (8 : Int64)) - (1 : Int64)) / (8 : Int64)) * (8 : Int64)) + g3) - (1 : Int64)) / g3), .second] []) (fun t k => XS.lstore X8.here hx rfl (hb hby d3_61) rfl (l' := #[rv a1, iv p2, jv ((((((16 : Int64) + (p2.toInt64)) + (8 : Int64)) - (1 : Int64)) / (8 : Int64)) * (8 : Int64)), .second, jv (0 : Int64), .second, jv (((((((((16 : Int64) + (p2.toInt64)) + (8 : Int64)) - (1 : Int64)) / (8 : Int64)) * (8 : Int64)) + g3) - (1 : Int64)) / g3), .second]) rfl k) ?_
      refine own_st (mkF m 65 #[rv a1, iv p2, jv ((((((16 : Int64) + (p2.toInt64)) + (8 : Int64)) - (1 : Int64)) / (8 : Int64)) * (8 : Int64)), .second, jv (0 : Int64), .second, jv (((((((((16 : Int64) + (p2.toInt64)) + (8 : Int64)) - (1 : Int64)) / (8 : Int64)) * (8 : Int64)) + g3) - (1 : Int64)) / g3), .second] [(.long (((((((((16 : Int64) + (p2.toInt64)) + (8 : Int64)) - (1 : Int64)) / (8 : Int64)) * (8 : Int64)) + g3) - (1 : Int64)) / g3))]) (fun t k => XS.lload X8.here hx rfl (hb hby d3_63) rfl k) ?_
      refine own_st (mkF m 66 #[rv a1, iv p2, jv ((((((16 : Int64) + (p2.toInt64)) + (8 : Int64)) - (1 : Int64)) / (8 : Int64)) * (8 : Int64)), .second, jv (0 : Int64), .second, jv (((((((((16 : Int64) + (p2.toInt64)) + (8 : Int64)) - (1 : Int64)) / (8 : Int64)) * (8 : Int64)) + g3) - (1 : Int64)) / g3), .second] [(.ref a1), (.long (((((((((16 : Int64) + (p2.toInt64)) + (8 : Int64)) - (1 : Int64)) / (8 : Int64)) * (8 : Int64)) + g3) - (1 : Int64)) / g3))]) (fun t k => XS.aloadN X8.here hx rfl (hb hby d3_65) rfl rfl k) ?_
      obtain ⟨T9, X9, e9, st9⟩ := getF X8 hx hZ hown (host := "") (Or.inl (hw_11 hw)) Via.refl e8 F_r (g := (mkF m 66 #[rv a1, iv p2, jv ((((((16 : Int64) + (p2.toInt64)) + (8 : Int64)) - (1 : Int64)) / (8 : Int64)) * (8 : Int64)), .second, jv (0 : Int64), .second, jv (((((((((16 : Int64) + (p2.toInt64)) + (8 : Int64)) - (1 : Int64)) / (8 : Int64)) * (8 : Int64)) + g3) - (1 : Int64)) / g3), .second] [(.ref a1), (.long (((((((((16 : Int64) + (p2.toInt64)) + (8 : Int64)) - (1 : Int64)) / (8 : Int64)) * (8 : Int64)) + g3) - (1 : Int64)) / g3))])) rfl rfl (hb hby d3_66)
      refine own_step (g' := (mkF m 69 #[rv a1, iv p2, jv ((((((16 : Int64) + (p2.toInt64)) + (8 : Int64)) - (1 : Int64)) / (8 : Int64)) * (8 : Int64)), .second, jv (0 : Int64), .second, jv (((((((((16 : Int64) + (p2.toInt64)) + (8 : Int64)) - (1 : Int64)) / (8 : Int64)) * (8 : Int64)) + g3) - (1 : Int64)) / g3), .second] [(.long g3), (.long (((((((((16 : Int64) + (p2.toInt64)) + (8 : Int64)) - (1 : Int64)) / (8 : Int64)) * (8 : Int64)) + g3) - (1 : Int64)) / g3))])) st9 ?_
      refine own_st (mkF m 70 #[rv a1, iv p2, jv ((((((16 : Int64) + (p2.toInt64)) + (8 : Int64)) - (1 : Int64)) / (8 : Int64)) * (8 : Int64)), .second, jv (0 : Int64), .second, jv (((((((((16 : Int64) + (p2.toInt64)) + (8 : Int64)) - (1 : Int64)) / (8 : Int64)) * (8 : Int64)) + g3) - (1 : Int64)) / g3), .second] [(.long ((((((((((16 : Int64) + (p2.toInt64)) + (8 : Int64)) - (1 : Int64)) / (8 : Int64)) * (8 : Int64)) + g3) - (1 : Int64)) / g3) * g3))]) (fun t k => XS.lmul X9.here hx rfl (hb hby d3_69) rfl k) ?_
      refine own_st (mkF m 71 #[rv a1, iv p2, jv ((((((16 : Int64) + (p2.toInt64)) + (8 : Int64)) - (1 : Int64)) / (8 : Int64)) * (8 : Int64)), .second, jv (0 : Int64), .second, jv (((((((((16 : Int64) + (p2.toInt64)) + (8 : Int64)) - (1 : Int64)) / (8 : Int64)) * (8 : Int64)) + g3) - (1 : Int64)) / g3), .second] [(.long ((((((16 : Int64) + (p2.toInt64)) + (8 : Int64)) - (1 : Int64)) / (8 : Int64)) * (8 : Int64))), (.long ((((((((((16 : Int64) + (p2.toInt64)) + (8 : Int64)) - (1 : Int64)) / (8 : Int64)) * (8 : Int64)) + g3) - (1 : Int64)) / g3) * g3))]) (fun t k => XS.lloadN X9.here hx rfl (hb hby d3_70) rfl k) ?_
      refine own_st (mkF m 72 #[rv a1, iv p2, jv ((((((16 : Int64) + (p2.toInt64)) + (8 : Int64)) - (1 : Int64)) / (8 : Int64)) * (8 : Int64)), .second, jv (0 : Int64), .second, jv (((((((((16 : Int64) + (p2.toInt64)) + (8 : Int64)) - (1 : Int64)) / (8 : Int64)) * (8 : Int64)) + g3) - (1 : Int64)) / g3), .second] [(.long (((((((((((16 : Int64) + (p2.toInt64)) + (8 : Int64)) - (1 : Int64)) / (8 : Int64)) * (8 : Int64)) + g3) - (1 : Int64)) / g3) * g3) - ((((((16 : Int64) + (p2.toInt64)) + (8 : Int64)) - (1 : Int64)) / (8 : Int64)) * (8 : Int64))))]) (fun t k => XS.lsub X9.here hx rfl (hb hby d3_71) rfl k) ?_
      refine own_st (mkF m 74 #[rv a1, iv p2, jv ((((((16 : Int64) + (p2.toInt64)) + (8 : Int64)) - (1 : Int64)) / (8 : Int64)) * (8 : Int64)), .second, jv (((((((((((16 : Int64) + (p2.toInt64)) + (8 : Int64)) - (1 : Int64)) / (8 : Int64)) * (8 : Int64)) + g3) - (1 : Int64)) / g3) * g3) - ((((((16 : Int64) + (p2.toInt64)) + (8 : Int64)) - (1 : Int64)) / (8 : Int64)) * (8 : Int64))), .second, jv (((((((((16 : Int64) + (p2.toInt64)) + (8 : Int64)) - (1 : Int64)) / (8 : Int64)) * (8 : Int64)) + g3) - (1 : Int64)) / g3), .second] []) (fun t k => XS.lstore X9.here hx rfl (hb hby d3_72) rfl (l' := #[rv a1, iv p2, jv ((((((16 : Int64) + (p2.toInt64)) + (8 : Int64)) - (1 : Int64)) / (8 : Int64)) * (8 : Int64)), .second, jv (((((((((((16 : Int64) + (p2.toInt64)) + (8 : Int64)) - (1 : Int64)) / (8 : Int64)) * (8 : Int64)) + g3) - (1 : Int64)) / g3) * g3) - ((((((16 : Int64) + (p2.toInt64)) + (8 : Int64)) - (1 : Int64)) / (8 : Int64)) * (8 : Int64))), .second, jv (((((((((16 : Int64) + (p2.toInt64)) + (8 : Int64)) - (1 : Int64)) / (8 : Int64)) * (8 : Int64)) + g3) - (1 : Int64)) / g3), .second]) rfl k) ?_
      refine own_st (mkF m 76 #[rv a1, iv p2, jv ((((((16 : Int64) + (p2.toInt64)) + (8 : Int64)) - (1 : Int64)) / (8 : Int64)) * (8 : Int64)), .second, jv (((((((((((16 : Int64) + (p2.toInt64)) + (8 : Int64)) - (1 : Int64)) / (8 : Int64)) * (8 : Int64)) + g3) - (1 : Int64)) / g3) * g3) - ((((((16 : Int64) + (p2.toInt64)) + (8 : Int64)) - (1 : Int64)) / (8 : Int64)) * (8 : Int64))), .second, jv (((((((((16 : Int64) + (p2.toInt64)) + (8 : Int64)) - (1 : Int64)) / (8 : Int64)) * (8 : Int64)) + g3) - (1 : Int64)) / g3), .second] [(.long (((((((((((16 : Int64) + (p2.toInt64)) + (8 : Int64)) - (1 : Int64)) / (8 : Int64)) * (8 : Int64)) + g3) - (1 : Int64)) / g3) * g3) - ((((((16 : Int64) + (p2.toInt64)) + (8 : Int64)) - (1 : Int64)) / (8 : Int64)) * (8 : Int64))))]) (fun t k => XS.lload X9.here hx rfl (hb hby d3_74) rfl k) ?_
      refine own_ret X9 hlk (v := some (.long (((((((((((16 : Int64) + (p2.toInt64)) + (8 : Int64)) - (1 : Int64)) / (8 : Int64)) * (8 : Int64)) + g3) - (1 : Int64)) / g3) * g3) - ((((((16 : Int64) + (p2.toInt64)) + (8 : Int64)) - (1 : Int64)) / (8 : Int64)) * (8 : Int64))))) (fun h => by rw [hret] at h; cases h) (fun fs hr => X9.lreturnOut hx hret (hb hby d3_76) hr) ?_ (by decide) (by decide)
      show own_Q3 Z a1 p2 g3 h0 n0 _ T9.heap _
      rw [e9]
      exact ⟨congrArg (fun z => some (Value.long z)) (by simp [own_waste, own_wsz, hc4, hc6] : (((((((((((16 : Int64) + (p2.toInt64)) + (8 : Int64)) - (1 : Int64)) / (8 : Int64)) * (8 : Int64)) + g3) - (1 : Int64)) / g3) * g3) - ((((((16 : Int64) + (p2.toInt64)) + (8 : Int64)) - (1 : Int64)) / (8 : Int64)) * (8 : Int64))) = own_waste g3 p2), N0, rfl⟩
    · refine own_st (mkF m 74 #[rv a1, iv p2, jv ((((((16 : Int64) + (p2.toInt64)) + (8 : Int64)) - (1 : Int64)) / (8 : Int64)) * (8 : Int64)), .second, jv (0 : Int64), .second, .unset, .unset] []) (fun t k => XS.ifYes X5.here hx rfl (pc0 := 45) (pc' := 74) rfl (hb hby d3_45) rfl (own_lle1 hc6) (by decide) (by decide) k) ?_
      refine own_st (mkF m 76 #[rv a1, iv p2, jv ((((((16 : Int64) + (p2.toInt64)) + (8 : Int64)) - (1 : Int64)) / (8 : Int64)) * (8 : Int64)), .second, jv (0 : Int64), .second, .unset, .unset] [(.long (0 : Int64))]) (fun t k => XS.lload X5.here hx rfl (hb hby d3_74) rfl k) ?_
      refine own_ret X5 hlk (v := some (.long (0 : Int64))) (fun h => by rw [hret] at h; cases h) (fun fs hr => X5.lreturnOut hx hret (hb hby d3_76) hr) ?_ (by decide) (by decide)
      show own_Q3 Z a1 p2 g3 h0 n0 _ T5.heap _
      rw [e5]
      exact ⟨congrArg (fun z => some (Value.long z)) (by simp [own_waste, own_wsz, hc4, hc6] : (0 : Int64) = own_waste g3 p2), N0, rfl⟩
  · refine own_st (mkF m 74 #[rv a1, iv p2, jv ((((((16 : Int64) + (p2.toInt64)) + (8 : Int64)) - (1 : Int64)) / (8 : Int64)) * (8 : Int64)), .second, jv (0 : Int64), .second, .unset, .unset] []) (fun t k => XS.ifYes X3.here hx rfl (pc0 := 32) (pc' := 74) rfl (hb hby d3_32) rfl (own_lle1 hc4) (by decide) (by decide) k) ?_
    refine own_st (mkF m 76 #[rv a1, iv p2, jv ((((((16 : Int64) + (p2.toInt64)) + (8 : Int64)) - (1 : Int64)) / (8 : Int64)) * (8 : Int64)), .second, jv (0 : Int64), .second, .unset, .unset] [(.long (0 : Int64))]) (fun t k => XS.lload X3.here hx rfl (hb hby d3_74) rfl k) ?_
    refine own_ret X3 hlk (v := some (.long (0 : Int64))) (fun h => by rw [hret] at h; cases h) (fun fs hr => X3.lreturnOut hx hret (hb hby d3_76) hr) ?_ (by decide) (by decide)
    show own_Q3 Z a1 p2 g3 h0 n0 _ T3.heap _
    rw [e3]
    exact ⟨congrArg (fun z => some (Value.long z)) (by simp [own_waste, own_wsz, hc4] : (0 : Int64) = own_waste g3 p2), N0, rfl⟩
theorem hw_0 {a0 : Array Value} {Z : State} (hw : ∀ d ∈ tables_1, d.before a0 Z = true) : (Jvm.Cond.constant "com/example/ictor/ictor/protocol/HeapRegionsWastePinLaw" (7 : Nat) (2147483647 : Int32)).before a0 Z = true := hw _ (List.mem_of_getElem? (i := 0) rfl)
theorem hw_1 {a0 : Array Value} {Z : State} (hw : ∀ d ∈ tables_1, d.before a0 Z = true) : (Jvm.Cond.constantLong "com/example/ictor/ictor/protocol/HeapRegionsWastePinLaw" (8 : Nat) (4611686018427387903 : Int64)).before a0 Z = true := hw _ (List.mem_of_getElem? (i := 1) rfl)
theorem hw_2 {a0 : Array Value} {Z : State} (hw : ∀ d ∈ tables_1, d.before a0 Z = true) : (Jvm.Cond.classLink "com/example/ictor/ictor/protocol/HeapRegionsWastePinLaw" (10 : Nat) "com/example/ictor/ictor/protocol/HeapRegions").before a0 Z = true := hw _ (List.mem_of_getElem? (i := 2) rfl)
theorem hw_4 {a0 : Array Value} {Z : State} (hw : ∀ d ∈ tables_1, d.before a0 Z = true) : (Jvm.Cond.initialized "com/example/ictor/ictor/protocol/HeapRegions").before a0 Z = true := hw _ (List.mem_of_getElem? (i := 4) rfl)
theorem hw_5 {a0 : Array Value} {Z : State} (hw : ∀ d ∈ tables_1, d.before a0 Z = true) : (Jvm.Cond.methodLink "com/example/ictor/ictor/protocol/HeapRegionsWastePinLaw" (12 : Nat) ({ cls := "com/example/ictor/ictor/protocol/HeapRegions", name := "<init>", desc := "(J)V" } : Jvm.MethodName)).before a0 Z = true := hw _ (List.mem_of_getElem? (i := 5) rfl)
theorem hw_7 {a0 : Array Value} {Z : State} (hw : ∀ d ∈ tables_1, d.before a0 Z = true) : (Jvm.Cond.code ({ cls := "com/example/ictor/ictor/protocol/HeapRegions", name := "<init>", desc := "(J)V" } : Jvm.MethodName) prog_7_method_1_code (3 : Nat) (Option.none : Option Jvm.ClassFile.FieldType)).before a0 Z = true := hw _ (List.mem_of_getElem? (i := 7) rfl)
theorem pd_0 : parseMethodDescriptor "(J)V" = some ⟨[.long], none⟩ := by decide +kernel
theorem hw_6 {a0 : Array Value} {Z : State} (hw : ∀ d ∈ tables_1, d.before a0 Z = true) : (Jvm.Cond.instanceMethod ({ cls := "com/example/ictor/ictor/protocol/HeapRegions", name := "<init>", desc := "(J)V" } : Jvm.MethodName)).before a0 Z = true := hw _ (List.mem_of_getElem? (i := 6) rfl)
theorem hw_13 {a0 : Array Value} {Z : State} (hw : ∀ d ∈ tables_1, d.before a0 Z = true) : (Jvm.Cond.methodLink "com/example/ictor/ictor/protocol/HeapRegionsWastePinLaw" (15 : Nat) ({ cls := "com/example/ictor/ictor/protocol/HeapRegions", name := "waste", desc := "(I)J" } : Jvm.MethodName)).before a0 Z = true := hw _ (List.mem_of_getElem? (i := 13) rfl)
theorem hw_17 {a0 : Array Value} {Z : State} (hw : ∀ d ∈ tables_1, d.before a0 Z = true) : (Jvm.Cond.code ({ cls := "com/example/ictor/ictor/protocol/HeapRegions", name := "waste", desc := "(I)J" } : Jvm.MethodName) prog_7_method_3_code (8 : Nat) (Option.some Jvm.ClassFile.FieldType.long)).before a0 Z = true := hw _ (List.mem_of_getElem? (i := 17) rfl)
theorem pd_1 : parseMethodDescriptor "(I)J" = some ⟨[.int], some .long⟩ := by decide +kernel
theorem hw_16 {a0 : Array Value} {Z : State} (hw : ∀ d ∈ tables_1, d.before a0 Z = true) : (Jvm.Cond.selects "com/example/ictor/ictor/protocol/HeapRegions" ({ cls := "com/example/ictor/ictor/protocol/HeapRegions", name := "waste", desc := "(I)J" } : Jvm.MethodName) ({ cls := "com/example/ictor/ictor/protocol/HeapRegions", name := "waste", desc := "(I)J" } : Jvm.MethodName)).before a0 Z = true := hw _ (List.mem_of_getElem? (i := 16) rfl)
theorem hw_14 {a0 : Array Value} {Z : State} (hw : ∀ d ∈ tables_1, d.before a0 Z = true) : (Jvm.Cond.declares ({ cls := "com/example/ictor/ictor/protocol/HeapRegions", name := "waste", desc := "(I)J" } : Jvm.MethodName)).before a0 Z = true := hw _ (List.mem_of_getElem? (i := 14) rfl)
theorem hw_15 {a0 : Array Value} {Z : State} (hw : ∀ d ∈ tables_1, d.before a0 Z = true) : (Jvm.Cond.instanceMethod ({ cls := "com/example/ictor/ictor/protocol/HeapRegions", name := "waste", desc := "(I)J" } : Jvm.MethodName)).before a0 Z = true := hw _ (List.mem_of_getElem? (i := 15) rfl)
theorem hw_21 {a0 : Array Value} {Z : State} (hw : ∀ d ∈ tables_1, d.before a0 Z = true) : (Jvm.Cond.constantLong "com/example/ictor/ictor/protocol/HeapRegionsWastePinLaw" (19 : Nat) (16 : Int64)).before a0 Z = true := hw _ (List.mem_of_getElem? (i := 21) rfl)
theorem hw_22 {a0 : Array Value} {Z : State} (hw : ∀ d ∈ tables_1, d.before a0 Z = true) : (Jvm.Cond.constantLong "com/example/ictor/ictor/protocol/HeapRegionsWastePinLaw" (21 : Nat) (8 : Int64)).before a0 Z = true := hw _ (List.mem_of_getElem? (i := 22) rfl)
theorem hw_23 {a0 : Array Value} {Z : State} (hw : ∀ d ∈ tables_1, d.before a0 Z = true) : (Jvm.Cond.constantLong "com/example/ictor/ictor/protocol/HeapRegionsWastePinLaw" (23 : Nat) (2 : Int64)).before a0 Z = true := hw _ (List.mem_of_getElem? (i := 23) rfl)
theorem pn_0 : plainName "com/example/ictor/ictor/protocol/HeapRegionsWastePinLaw" = true := by first | (simp [plainName, overriddenIn]; done) | decide +kernel
theorem own_ef0 (m : MethodId) (p1 : Int32) (q2 : Int64) (p3 : Int32) : entryFrame m #[(.int p1), (.long q2), (.int p3)] maxLocals = mkF m 0 #[iv p1, jv q2, .second, iv p3, .unset, .unset, .unset, .unset, .unset, .unset, .unset, .unset, .unset, .unset, .unset, .unset, .unset, .unset] [] := by first | (simp [entryFrame, mkF, argsToLocals, Value.category, maxLocals]; done) | rfl
def own_Q0 (Z : State) (p1 : Int32) (q2 : Int64) (p3 : Int32) (h0 : Heap) (n0 : Nat) (v : Option Value) (h : Heap) (L : List Loc) : Prop := v = some (.int 1) ∧ Fr n0 L
set_option maxRecDepth 65536 in
set_option maxHeartbeats 40000000 in
theorem own_rm0 (l : Launch) (Z : State) (a0 : Array Value) (hw : ∀ d ∈ tables_1, d.before a0 Z = true) (ws : List Jvm.Cond) (p1 : Int32) (q2 : Int64) (p3 : Int32) (h0 : Heap) (n0 : Nat) (Z0 : n0 ≤ h0.size) :
    MetFree l x (head1 (Jvm.Cond.code x code maxLocals ret :: ws) room_1) (fun a U => a = #[(.int p1), (.long q2), (.int p3)] ∧ Z.Warmed39 U.vm ∧ U.heap = h0) (fun _ _ _ _ _ => True) (fun _ U o U' => ∃ v L, o = .returned v ∧ own_Q0 Z p1 q2 p3 h0 n0 v U'.heap L ∧ FrameEnd U o U' L 16 128) := by
  refine own_body (plainFor_of_name pn_0) (fun m => own_ef0 m p1 q2 p3) ?_
  intro p e s m below meth c T0 X0 hx hby hml hZ hown hnm hret hlk e0
  have hown : s.vm.findClass "com/example/ictor/ictor/protocol/HeapRegionsWastePinLaw" = some m.cls := hown
  have hnm : meth.name = "law" := hnm
  have N0 := Fr.nil n0
  refine own_st (mkF m 1 #[iv p1, jv q2, .second, iv p3, .unset, .unset, .unset, .unset, .unset, .unset, .unset, .unset, .unset, .unset, .unset, .unset, .unset, .unset] [(.int p1)]) (fun t k => XS.iloadN X0.here hx rfl (hb hby at_0) rfl k) ?_
  refine own_st (mkF m 3 #[iv p1, jv q2, .second, iv p3, .unset, .unset, .unset, .unset, .unset, .unset, .unset, .unset, .unset, .unset, .unset, .unset, .unset, .unset] [(.int (2147483647 : Int32)), (.int p1)]) (fun t k => X0.ldcInt hx hown (mvT hZ (hw_0 hw)) (g := (mkF m 1 #[iv p1, jv q2, .second, iv p3, .unset, .unset, .unset, .unset, .unset, .unset, .unset, .unset, .unset, .unset, .unset, .unset, .unset, .unset] [(.int p1)])) rfl (hb hby at_1) _ k) ?_
  refine own_st (mkF m 4 #[iv p1, jv q2, .second, iv p3, .unset, .unset, .unset, .unset, .unset, .unset, .unset, .unset, .unset, .unset, .unset, .unset, .unset, .unset] [(.int (p1 &&& (2147483647 : Int32)))]) (fun t k => XS.iand X0.here hx rfl (hb hby at_3) rfl k) ?_
  obtain ⟨ln, h_ln⟩ : ∃ z, z = (p1 &&& (2147483647 : Int32)) := ⟨_, rfl⟩
  rw [← h_ln]
  have hln : 0 ≤ ln.toInt := h_ln ▸ own_len _
  refine own_st (mkF m 6 #[iv p1, jv q2, .second, iv p3, iv ln, .unset, .unset, .unset, .unset, .unset, .unset, .unset, .unset, .unset, .unset, .unset, .unset, .unset] []) (fun t k => XS.istore X0.here hx rfl (hb hby at_4) rfl (l' := #[iv p1, jv q2, .second, iv p3, iv ln, .unset, .unset, .unset, .unset, .unset, .unset, .unset, .unset, .unset, .unset, .unset, .unset, .unset]) rfl k) ?_
  refine own_st (mkF m 7 #[iv p1, jv q2, .second, iv p3, iv ln, .unset, .unset, .unset, .unset, .unset, .unset, .unset, .unset, .unset, .unset, .unset, .unset, .unset] [(.long q2)]) (fun t k => XS.lloadN X0.here hx rfl (hb hby at_6) rfl k) ?_
  refine own_st (mkF m 10 #[iv p1, jv q2, .second, iv p3, iv ln, .unset, .unset, .unset, .unset, .unset, .unset, .unset, .unset, .unset, .unset, .unset, .unset, .unset] [(.long (4611686018427387903 : Int64)), (.long q2)]) (fun t k => X0.ldc2Long hx hown (mvT hZ (hw_1 hw)) (g := (mkF m 7 #[iv p1, jv q2, .second, iv p3, iv ln, .unset, .unset, .unset, .unset, .unset, .unset, .unset, .unset, .unset, .unset, .unset, .unset, .unset] [(.long q2)])) rfl (hb hby at_7) _ k) ?_
  refine own_st (mkF m 11 #[iv p1, jv q2, .second, iv p3, iv ln, .unset, .unset, .unset, .unset, .unset, .unset, .unset, .unset, .unset, .unset, .unset, .unset, .unset] [(.long (q2 &&& (4611686018427387903 : Int64)))]) (fun t k => XS.land X0.here hx rfl (hb hby at_10) rfl k) ?_
  refine own_st (mkF m 12 #[iv p1, jv q2, .second, iv p3, iv ln, .unset, .unset, .unset, .unset, .unset, .unset, .unset, .unset, .unset, .unset, .unset, .unset, .unset] [(.int p3), (.long (q2 &&& (4611686018427387903 : Int64)))]) (fun t k => XS.iloadN X0.here hx rfl (hb hby at_11) rfl k) ?_
  refine own_st (mkF m 14 #[iv p1, jv q2, .second, iv p3, iv ln, .unset, .unset, .unset, .unset, .unset, .unset, .unset, .unset, .unset, .unset, .unset, .unset, .unset] [(.int (63 : Int32)), (.int p3), (.long (q2 &&& (4611686018427387903 : Int64)))]) (fun t k => XS.bipush X0.here hx rfl (hb hby at_12) k) ?_
  refine own_st (mkF m 15 #[iv p1, jv q2, .second, iv p3, iv ln, .unset, .unset, .unset, .unset, .unset, .unset, .unset, .unset, .unset, .unset, .unset, .unset, .unset] [(.int (p3 &&& (63 : Int32))), (.long (q2 &&& (4611686018427387903 : Int64)))]) (fun t k => XS.iand X0.here hx rfl (hb hby at_14) rfl k) ?_
  refine own_st (mkF m 16 #[iv p1, jv q2, .second, iv p3, iv ln, .unset, .unset, .unset, .unset, .unset, .unset, .unset, .unset, .unset, .unset, .unset, .unset, .unset] [(.long (((q2 &&& (4611686018427387903 : Int64)).toUInt64 >>> ((p3 &&& (63 : Int32)) &&& 0x3f).toInt64.toUInt64).toInt64))]) (fun t k => XS.lushr X0.here hx rfl (hb hby at_15) rfl k) ?_
  obtain ⟨rg, h_rg⟩ : ∃ z, z = (((q2 &&& (4611686018427387903 : Int64)).toUInt64 >>> ((p3 &&& (63 : Int32)) &&& 0x3f).toInt64.toUInt64).toInt64) := ⟨_, rfl⟩
  rw [← h_rg]
  have hrg : 0 ≤ rg.toInt ∧ rg.toInt < 2 ^ 62 := h_rg ▸ own_reg _ _
  refine own_st (mkF m 18 #[iv p1, jv q2, .second, iv p3, iv ln, jv rg, .second, .unset, .unset, .unset, .unset, .unset, .unset, .unset, .unset, .unset, .unset, .unset] []) (fun t k => XS.lstore X0.here hx rfl (hb hby at_16) rfl (l' := #[iv p1, jv q2, .second, iv p3, iv ln, jv rg, .second, .unset, .unset, .unset, .unset, .unset, .unset, .unset, .unset, .unset, .unset, .unset]) rfl k) ?_
  obtain ⟨T10, h10, X10, e10, E10, A10, D10, -, st10⟩ := newO X0 hx hZ hown (hw_2 hw) (hw_3 hw) (hw_4 hw) e0 (g := (mkF m 18 #[iv p1, jv q2, .second, iv p3, iv ln, jv rg, .second, .unset, .unset, .unset, .unset, .unset, .unset, .unset, .unset, .unset, .unset, .unset] [])) rfl (hb hby at_18) (by decide) (by decide)
  obtain ⟨b10, g10⟩ : ∃ z, z = h0.size := ⟨_, rfl⟩
  rw [← g10] at A10 D10 st10
  have E_10 : Ext h0 h10 := E10
  have g_b10 : n0 ≤ b10 := Nat.le_trans Z0 (Nat.le_of_eq g10.symm)
  have Z10 : n0 ≤ h10.size := Nat.le_trans Z0 E10.1
  have F_regionSize_b10 : Fld Z h10 b10 "com/example/ictor/ictor/protocol/HeapRegions" "regionSize" "J" (.long (0 : Int64)) := D10 (Or.inr (hw_12 hw)) (ty := .long) (by decide)
  refine own_step (g' := (mkF m 21 #[iv p1, jv q2, .second, iv p3, iv ln, jv rg, .second, .unset, .unset, .unset, .unset, .unset, .unset, .unset, .unset, .unset, .unset, .unset] [(.ref b10)])) st10 ?_
  refine own_st (mkF m 22 #[iv p1, jv q2, .second, iv p3, iv ln, jv rg, .second, .unset, .unset, .unset, .unset, .unset, .unset, .unset, .unset, .unset, .unset, .unset] [(.ref b10), (.ref b10)]) (fun t k => XS.dup X10.here hx rfl (hb hby at_21) rfl rfl k) ?_
  refine own_st (mkF m 24 #[iv p1, jv q2, .second, iv p3, iv ln, jv rg, .second, .unset, .unset, .unset, .unset, .unset, .unset, .unset, .unset, .unset, .unset, .unset] [(.long rg), (.ref b10), (.ref b10)]) (fun t k => XS.lload X10.here hx rfl (hb hby at_22) rfl k) ?_
  obtain ⟨_, _, ⟨T11, L11, k11, n11⟩, -, X11, ⟨Lc11, hQ11, l11, y11, z11⟩, st11⟩ := X10.specialBack hx (y := (⟨"com/example/ictor/ictor/protocol/HeapRegions", "<init>", "(J)V"⟩ : MethodName)) rfl hown (mvT hZ (hw_5 hw)) (mvT hZ (hw_6 hw)) (mvT hZ (hw_7 hw)) (by decide) (backOf (W := 1) (own_rm1 l Z a0 hw [] b10 rg h10 n0 Z10 A10 g_b10 F_regionSize_b10) hZ (hw_7 hw) (hw_4 hw) (by decide) (by decide)) (g := (mkF m 24 #[iv p1, jv q2, .second, iv p3, iv ln, jv rg, .second, .unset, .unset, .unset, .unset, .unset, .unset, .unset, .unset, .unset, .unset, .unset] [(.long rg), (.ref b10), (.ref b10)])) rfl (by rw [hml]; rfl) (Steps.refl _) (a := b10) (argsL := [(.long rg)]) (rest := [(.ref b10)]) (lenOf pd_0 rfl) rfl (by show 2 * 0 + _ ≤ _; exact Nat.le_of_eq rfl) (hb hby at_24) (fun _ _ => ⟨rfl, e10, (by decide : 1 + 0 ≤ _), (by decide : 1 + 0 ≤ _)⟩)
  dsimp only [Pt.U, Pt.locs, Pt.cells, Pt.slots] at X11 l11 y11 z11 st11 hQ11
  subst l11 y11 z11
  obtain ⟨rfl, Nq11, K11, Ex11, Fl11_regionSize⟩ := hQ11
  have N11 := Fr.app N0 Nq11
  have Z11 : n0 ≤ T11.heap.size := Nat.le_trans Z10 K11.1
  have f1_Exa_b10 : Exa Z T11.heap b10 "com/example/ictor/ictor/protocol/HeapRegions" := (A10.keep K11)
  refine own_jump (g' := (mkF m 27 #[iv p1, jv q2, .second, iv p3, iv ln, jv rg, .second, .unset, .unset, .unset, .unset, .unset, .unset, .unset, .unset, .unset, .unset, .unset] [(.ref b10)])) st11 ?_
  refine own_st (mkF m 29 #[iv p1, jv q2, .second, iv p3, iv ln, jv rg, .second, rv b10, .unset, .unset, .unset, .unset, .unset, .unset, .unset, .unset, .unset, .unset] []) (fun t k => XS.astore X11.here hx rfl (hb hby at_27) rfl rfl (l' := #[iv p1, jv q2, .second, iv p3, iv ln, jv rg, .second, rv b10, .unset, .unset, .unset, .unset, .unset, .unset, .unset, .unset, .unset, .unset]) rfl k) ?_
  refine own_st (mkF m 31 #[iv p1, jv q2, .second, iv p3, iv ln, jv rg, .second, rv b10, .unset, .unset, .unset, .unset, .unset, .unset, .unset, .unset, .unset, .unset] [(.ref b10)]) (fun t k => XS.aload X11.here hx rfl (hb hby at_29) rfl rfl k) ?_
  refine own_st (mkF m 33 #[iv p1, jv q2, .second, iv p3, iv ln, jv rg, .second, rv b10, .unset, .unset, .unset, .unset, .unset, .unset, .unset, .unset, .unset, .unset] [(.int ln), (.ref b10)]) (fun t k => XS.iload X11.here hx rfl (hb hby at_31) rfl k) ?_
  obtain ⟨cq12, kq12, q12a, q12b, q12c⟩ := isOf hZ rfl Ex11
  obtain ⟨_, _, ⟨T12, L12, k12, n12⟩, -, X12, ⟨Lc12, hQ12, l12, y12, z12⟩, st12⟩ := X11.virtualBack hx (y := (⟨"com/example/ictor/ictor/protocol/HeapRegions", "waste", "(I)J"⟩ : MethodName)) (z := (⟨"com/example/ictor/ictor/protocol/HeapRegions", "waste", "(I)J"⟩ : MethodName)) hown (mvT hZ (hw_13 hw)) (mvT hZ (hw_14 hw)) (notFace_of_selects (args := #[]) (mvT hZ (hw_16 hw))) (mvT hZ (hw_16 hw)) (mvT hZ (hw_15 hw)) (by decide) (backOf (W := 0) (own_rm3 l Z a0 hw [] b10 ln rg T11.heap n0 Z11 Fl11_regionSize) hZ (hw_17 hw) (hw_4 hw) (by decide) (by decide)) q12a q12c (g := (mkF m 33 #[iv p1, jv q2, .second, iv p3, iv ln, jv rg, .second, rv b10, .unset, .unset, .unset, .unset, .unset, .unset, .unset, .unset, .unset, .unset] [(.int ln), (.ref b10)])) rfl (by rw [hml]; rfl) (Steps.refl _) (argsL := [(.int ln)]) (rest := []) (lenOf pd_1 rfl) rfl (by show 2 * 0 + _ ≤ _; exact Nat.le_of_eq rfl) (hb hby at_33) (fun _ _ => ⟨rfl, rfl, (by decide : 1 + 0 ≤ _), (by decide : 1 + 0 ≤ _)⟩)
  dsimp only [Pt.U, Pt.locs, Pt.cells, Pt.slots] at X12 l12 y12 z12 st12 hQ12
  subst l12 y12 z12
  obtain ⟨rfl, Nq12, e12⟩ := hQ12
  have N12 := Fr.app N11 Nq12
  refine own_jump (g' := (mkF m 36 #[iv p1, jv q2, .second, iv p3, iv ln, jv rg, .second, rv b10, .unset, .unset, .unset, .unset, .unset, .unset, .unset, .unset, .unset, .unset] [(.long (own_waste rg ln))])) st12 ?_
  refine own_st (mkF m 38 #[iv p1, jv q2, .second, iv p3, iv ln, jv rg, .second, rv b10, jv (own_waste rg ln), .second, .unset, .unset, .unset, .unset, .unset, .unset, .unset, .unset] []) (fun t k => XS.lstore X12.here hx rfl (hb hby at_36) rfl (l' := #[iv p1, jv q2, .second, iv p3, iv ln, jv rg, .second, rv b10, jv (own_waste rg ln), .second, .unset, .unset, .unset, .unset, .unset, .unset, .unset, .unset]) rfl k) ?_
  refine own_st (mkF m 40 #[iv p1, jv q2, .second, iv p3, iv ln, jv rg, .second, rv b10, jv (own_waste rg ln), .second, .unset, .unset, .unset, .unset, .unset, .unset, .unset, .unset] [(.int ln)]) (fun t k => XS.iload X12.here hx rfl (hb hby at_38) rfl k) ?_
  refine own_st (mkF m 41 #[iv p1, jv q2, .second, iv p3, iv ln, jv rg, .second, rv b10, jv (own_waste rg ln), .second, .unset, .unset, .unset, .unset, .unset, .unset, .unset, .unset] [(.long (ln.toInt64))]) (fun t k => XS.i2l X12.here hx rfl (hb hby at_40) rfl k) ?_
  refine own_st (mkF m 44 #[iv p1, jv q2, .second, iv p3, iv ln, jv rg, .second, rv b10, jv (own_waste rg ln), .second, .unset, .unset, .unset, .unset, .unset, .unset, .unset, .unset] [(.long (16 : Int64)), (.long (ln.toInt64))]) (fun t k => X12.ldc2Long hx hown (mvT hZ (hw_21 hw)) (g := (mkF m 41 #[iv p1, jv q2, .second, iv p3, iv ln, jv rg, .second, rv b10, jv (own_waste rg ln), .second, .unset, .unset, .unset, .unset, .unset, .unset, .unset, .unset] [(.long (ln.toInt64))])) rfl (hb hby at_41) _ k) ?_
  refine own_st (mkF m 45 #[iv p1, jv q2, .second, iv p3, iv ln, jv rg, .second, rv b10, jv (own_waste rg ln), .second, .unset, .unset, .unset, .unset, .unset, .unset, .unset, .unset] [(.long ((ln.toInt64) + (16 : Int64)))]) (fun t k => XS.ladd X12.here hx rfl (hb hby at_44) rfl k) ?_
  refine own_st (mkF m 47 #[iv p1, jv q2, .second, iv p3, iv ln, jv rg, .second, rv b10, jv (own_waste rg ln), .second, jv ((ln.toInt64) + (16 : Int64)), .second, .unset, .unset, .unset, .unset, .unset, .unset] []) (fun t k => XS.lstore X12.here hx rfl (hb hby at_45) rfl (l' := #[iv p1, jv q2, .second, iv p3, iv ln, jv rg, .second, rv b10, jv (own_waste rg ln), .second, jv ((ln.toInt64) + (16 : Int64)), .second, .unset, .unset, .unset, .unset, .unset, .unset]) rfl k) ?_
  refine own_st (mkF m 49 #[iv p1, jv q2, .second, iv p3, iv ln, jv rg, .second, rv b10, jv (own_waste rg ln), .second, jv ((ln.toInt64) + (16 : Int64)), .second, .unset, .unset, .unset, .unset, .unset, .unset] [(.long ((ln.toInt64) + (16 : Int64)))]) (fun t k => XS.lload X12.here hx rfl (hb hby at_47) rfl k) ?_
  refine own_st (mkF m 52 #[iv p1, jv q2, .second, iv p3, iv ln, jv rg, .second, rv b10, jv (own_waste rg ln), .second, jv ((ln.toInt64) + (16 : Int64)), .second, .unset, .unset, .unset, .unset, .unset, .unset] [(.long (8 : Int64)), (.long ((ln.toInt64) + (16 : Int64)))]) (fun t k => X12.ldc2Long hx hown (mvT hZ (hw_22 hw)) (g := (mkF m 49 #[iv p1, jv q2, .second, iv p3, iv ln, jv rg, .second, rv b10, jv (own_waste rg ln), .second, jv ((ln.toInt64) + (16 : Int64)), .second, .unset, .unset, .unset, .unset, .unset, .unset] [(.long ((ln.toInt64) + (16 : Int64)))])) rfl (hb hby at_49) _ k) ?_
  refine own_st (mkF m 53 #[iv p1, jv q2, .second, iv p3, iv ln, jv rg, .second, rv b10, jv (own_waste rg ln), .second, jv ((ln.toInt64) + (16 : Int64)), .second, .unset, .unset, .unset, .unset, .unset, .unset] [(.long (((ln.toInt64) + (16 : Int64)) % (8 : Int64)))]) (fun t k => own_lremM X12 hx rfl (hb hby at_52) rfl (by decide) k) ?_
  refine own_st (mkF m 55 #[iv p1, jv q2, .second, iv p3, iv ln, jv rg, .second, rv b10, jv (own_waste rg ln), .second, jv ((ln.toInt64) + (16 : Int64)), .second, jv (((ln.toInt64) + (16 : Int64)) % (8 : Int64)), .second, .unset, .unset, .unset, .unset] []) (fun t k => XS.lstore X12.here hx rfl (hb hby at_53) rfl (l' := #[iv p1, jv q2, .second, iv p3, iv ln, jv rg, .second, rv b10, jv (own_waste rg ln), .second, jv ((ln.toInt64) + (16 : Int64)), .second, jv (((ln.toInt64) + (16 : Int64)) % (8 : Int64)), .second, .unset, .unset, .unset, .unset]) rfl k) ?_
  refine own_st (mkF m 57 #[iv p1, jv q2, .second, iv p3, iv ln, jv rg, .second, rv b10, jv (own_waste rg ln), .second, jv ((ln.toInt64) + (16 : Int64)), .second, jv (((ln.toInt64) + (16 : Int64)) % (8 : Int64)), .second, .unset, .unset, .unset, .unset] [(.long (((ln.toInt64) + (16 : Int64)) % (8 : Int64)))]) (fun t k => XS.lload X12.here hx rfl (hb hby at_55) rfl k) ?_
  refine own_st (mkF m 58 #[iv p1, jv q2, .second, iv p3, iv ln, jv rg, .second, rv b10, jv (own_waste rg ln), .second, jv ((ln.toInt64) + (16 : Int64)), .second, jv (((ln.toInt64) + (16 : Int64)) % (8 : Int64)), .second, .unset, .unset, .unset, .unset] [(.long (0 : Int64)), (.long (((ln.toInt64) + (16 : Int64)) % (8 : Int64)))]) (fun t k => XS.lconst X12.here hx rfl (hb hby at_57) k) ?_
  refine own_st (mkF m 59 #[iv p1, jv q2, .second, iv p3, iv ln, jv rg, .second, rv b10, jv (own_waste rg ln), .second, jv ((ln.toInt64) + (16 : Int64)), .second, jv (((ln.toInt64) + (16 : Int64)) % (8 : Int64)), .second, .unset, .unset, .unset, .unset] [(.int (lcmpW (((ln.toInt64) + (16 : Int64)) % (8 : Int64)) (0 : Int64)))]) (fun t k => XS.lcmp X12.here hx rfl (hb hby at_58) rfl k) ?_
  by_cases hc13 : (((ln.toInt64) + (16 : Int64)) % (8 : Int64)) = (0 : Int64)
  · refine own_st (mkF m 62 #[iv p1, jv q2, .second, iv p3, iv ln, jv rg, .second, rv b10, jv (own_waste rg ln), .second, jv ((ln.toInt64) + (16 : Int64)), .second, jv (((ln.toInt64) + (16 : Int64)) % (8 : Int64)), .second, .unset, .unset, .unset, .unset] []) (fun t k => XS.ifNo X12.here hx rfl (hb hby at_59) rfl (own_lne0 hc13) k) ?_
    refine own_st (mkF m 64 #[iv p1, jv q2, .second, iv p3, iv ln, jv rg, .second, rv b10, jv (own_waste rg ln), .second, jv ((ln.toInt64) + (16 : Int64)), .second, jv (((ln.toInt64) + (16 : Int64)) % (8 : Int64)), .second, .unset, .unset, .unset, .unset] [(.long ((ln.toInt64) + (16 : Int64)))]) (fun t k => XS.lload X12.here hx rfl (hb hby at_62) rfl k) ?_
    refine own_st (mkF m 76 #[iv p1, jv q2, .second, iv p3, iv ln, jv rg, .second, rv b10, jv (own_waste rg ln), .second, jv ((ln.toInt64) + (16 : Int64)), .second, jv (((ln.toInt64) + (16 : Int64)) % (8 : Int64)), .second, .unset, .unset, .unset, .unset] [(.long ((ln.toInt64) + (16 : Int64)))]) (fun t k => XS.goto X12.here hx rfl (pc0 := 64) (pc' := 76) rfl (hb hby at_64) (by decide) (by decide) k) ?_
    refine own_st (mkF m 78 #[iv p1, jv q2, .second, iv p3, iv ln, jv rg, .second, rv b10, jv (own_waste rg ln), .second, jv ((ln.toInt64) + (16 : Int64)), .second, jv (((ln.toInt64) + (16 : Int64)) % (8 : Int64)), .second, jv ((ln.toInt64) + (16 : Int64)), .second, .unset, .unset] []) (fun t k => XS.lstore X12.here hx rfl (hb hby at_76) rfl (l' := #[iv p1, jv q2, .second, iv p3, iv ln, jv rg, .second, rv b10, jv (own_waste rg ln), .second, jv ((ln.toInt64) + (16 : Int64)), .second, jv (((ln.toInt64) + (16 : Int64)) % (8 : Int64)), .second, jv ((ln.toInt64) + (16 : Int64)), .second, .unset, .unset]) rfl k) ?_
    refine own_st (mkF m 79 #[iv p1, jv q2, .second, iv p3, iv ln, jv rg, .second, rv b10, jv (own_waste rg ln), .second, jv ((ln.toInt64) + (16 : Int64)), .second, jv (((ln.toInt64) + (16 : Int64)) % (8 : Int64)), .second, jv ((ln.toInt64) + (16 : Int64)), .second, .unset, .unset] [(.long (0 : Int64))]) (fun t k => XS.lconst X12.here hx rfl (hb hby at_78) k) ?_
    refine own_st (mkF m 81 #[iv p1, jv q2, .second, iv p3, iv ln, jv rg, .second, rv b10, jv (own_waste rg ln), .second, jv ((ln.toInt64) + (16 : Int64)), .second, jv (((ln.toInt64) + (16 : Int64)) % (8 : Int64)), .second, jv ((ln.toInt64) + (16 : Int64)), .second, jv (0 : Int64), .second] []) (fun t k => XS.lstore X12.here hx rfl (hb hby at_79) rfl (l' := #[iv p1, jv q2, .second, iv p3, iv ln, jv rg, .second, rv b10, jv (own_waste rg ln), .second, jv ((ln.toInt64) + (16 : Int64)), .second, jv (((ln.toInt64) + (16 : Int64)) % (8 : Int64)), .second, jv ((ln.toInt64) + (16 : Int64)), .second, jv (0 : Int64), .second]) rfl k) ?_
    refine own_st (mkF m 83 #[iv p1, jv q2, .second, iv p3, iv ln, jv rg, .second, rv b10, jv (own_waste rg ln), .second, jv ((ln.toInt64) + (16 : Int64)), .second, jv (((ln.toInt64) + (16 : Int64)) % (8 : Int64)), .second, jv ((ln.toInt64) + (16 : Int64)), .second, jv (0 : Int64), .second] [(.long rg)]) (fun t k => XS.lload X12.here hx rfl (hb hby at_81) rfl k) ?_
    refine own_st (mkF m 84 #[iv p1, jv q2, .second, iv p3, iv ln, jv rg, .second, rv b10, jv (own_waste rg ln), .second, jv ((ln.toInt64) + (16 : Int64)), .second, jv (((ln.toInt64) + (16 : Int64)) % (8 : Int64)), .second, jv ((ln.toInt64) + (16 : Int64)), .second, jv (0 : Int64), .second] [(.long (0 : Int64)), (.long rg)]) (fun t k => XS.lconst X12.here hx rfl (hb hby at_83) k) ?_
    refine own_st (mkF m 85 #[iv p1, jv q2, .second, iv p3, iv ln, jv rg, .second, rv b10, jv (own_waste rg ln), .second, jv ((ln.toInt64) + (16 : Int64)), .second, jv (((ln.toInt64) + (16 : Int64)) % (8 : Int64)), .second, jv ((ln.toInt64) + (16 : Int64)), .second, jv (0 : Int64), .second] [(.int (lcmpW rg (0 : Int64)))]) (fun t k => XS.lcmp X12.here hx rfl (hb hby at_84) rfl k) ?_
    by_cases hc14 : (0 : Int64) < rg
    · refine own_st (mkF m 88 #[iv p1, jv q2, .second, iv p3, iv ln, jv rg, .second, rv b10, jv (own_waste rg ln), .second, jv ((ln.toInt64) + (16 : Int64)), .second, jv (((ln.toInt64) + (16 : Int64)) % (8 : Int64)), .second, jv ((ln.toInt64) + (16 : Int64)), .second, jv (0 : Int64), .second] []) (fun t k => XS.ifNo X12.here hx rfl (hb hby at_85) rfl (own_lle0 hc14) k) ?_
      refine own_st (mkF m 91 #[iv p1, jv q2, .second, iv p3, iv ln, jv rg, .second, rv b10, jv (own_waste rg ln), .second, jv ((ln.toInt64) + (16 : Int64)), .second, jv (((ln.toInt64) + (16 : Int64)) % (8 : Int64)), .second, jv ((ln.toInt64) + (16 : Int64)), .second, jv (0 : Int64), .second] [(.long (2 : Int64))]) (fun t k => X12.ldc2Long hx hown (mvT hZ (hw_23 hw)) (g := (mkF m 88 #[iv p1, jv q2, .second, iv p3, iv ln, jv rg, .second, rv b10, jv (own_waste rg ln), .second, jv ((ln.toInt64) + (16 : Int64)), .second, jv (((ln.toInt64) + (16 : Int64)) % (8 : Int64)), .second, jv ((ln.toInt64) + (16 : Int64)), .second, jv (0 : Int64), .second] [])) rfl (hb hby at_88) _ k) ?_
      refine own_st (mkF m 93 #[iv p1, jv q2, .second, iv p3, iv ln, jv rg, .second, rv b10, jv (own_waste rg ln), .second, jv ((ln.toInt64) + (16 : Int64)), .second, jv (((ln.toInt64) + (16 : Int64)) % (8 : Int64)), .second, jv ((ln.toInt64) + (16 : Int64)), .second, jv (0 : Int64), .second] [(.long ((ln.toInt64) + (16 : Int64))), (.long (2 : Int64))]) (fun t k => XS.lload X12.here hx rfl (hb hby at_91) rfl k) ?_
      refine own_st (mkF m 94 #[iv p1, jv q2, .second, iv p3, iv ln, jv rg, .second, rv b10, jv (own_waste rg ln), .second, jv ((ln.toInt64) + (16 : Int64)), .second, jv (((ln.toInt64) + (16 : Int64)) % (8 : Int64)), .second, jv ((ln.toInt64) + (16 : Int64)), .second, jv (0 : Int64), .second] [(.long ((2 : Int64) * ((ln.toInt64) + (16 : Int64))))]) (fun t k => XS.lmul X12.here hx rfl (hb hby at_93) rfl k) ?_
      refine own_st (mkF m 96 #[iv p1, jv q2, .second, iv p3, iv ln, jv rg, .second, rv b10, jv (own_waste rg ln), .second, jv ((ln.toInt64) + (16 : Int64)), .second, jv (((ln.toInt64) + (16 : Int64)) % (8 : Int64)), .second, jv ((ln.toInt64) + (16 : Int64)), .second, jv (0 : Int64), .second] [(.long rg), (.long ((2 : Int64) * ((ln.toInt64) + (16 : Int64))))]) (fun t k => XS.lload X12.here hx rfl (hb hby at_94) rfl k) ?_
      refine own_st (mkF m 97 #[iv p1, jv q2, .second, iv p3, iv ln, jv rg, .second, rv b10, jv (own_waste rg ln), .second, jv ((ln.toInt64) + (16 : Int64)), .second, jv (((ln.toInt64) + (16 : Int64)) % (8 : Int64)), .second, jv ((ln.toInt64) + (16 : Int64)), .second, jv (0 : Int64), .second] [(.int (lcmpW ((2 : Int64) * ((ln.toInt64) + (16 : Int64))) rg))]) (fun t k => XS.lcmp X12.here hx rfl (hb hby at_96) rfl k) ?_
      by_cases hc15 : rg < ((2 : Int64) * ((ln.toInt64) + (16 : Int64)))
      · refine own_st (mkF m 100 #[iv p1, jv q2, .second, iv p3, iv ln, jv rg, .second, rv b10, jv (own_waste rg ln), .second, jv ((ln.toInt64) + (16 : Int64)), .second, jv (((ln.toInt64) + (16 : Int64)) % (8 : Int64)), .second, jv ((ln.toInt64) + (16 : Int64)), .second, jv (0 : Int64), .second] []) (fun t k => XS.ifNo X12.here hx rfl (hb hby at_97) rfl (own_lle0 hc15) k) ?_
        refine own_st (mkF m 102 #[iv p1, jv q2, .second, iv p3, iv ln, jv rg, .second, rv b10, jv (own_waste rg ln), .second, jv ((ln.toInt64) + (16 : Int64)), .second, jv (((ln.toInt64) + (16 : Int64)) % (8 : Int64)), .second, jv ((ln.toInt64) + (16 : Int64)), .second, jv (0 : Int64), .second] [(.long rg)]) (fun t k => XS.lload X12.here hx rfl (hb hby at_100) rfl k) ?_
        refine own_st (mkF m 104 #[iv p1, jv q2, .second, iv p3, iv ln, jv rg, .second, rv b10, jv (own_waste rg ln), .second, jv ((ln.toInt64) + (16 : Int64)), .second, jv (((ln.toInt64) + (16 : Int64)) % (8 : Int64)), .second, jv ((ln.toInt64) + (16 : Int64)), .second, jv (0 : Int64), .second] [(.long ((ln.toInt64) + (16 : Int64))), (.long rg)]) (fun t k => XS.lload X12.here hx rfl (hb hby at_102) rfl k) ?_
        refine own_st (mkF m 106 #[iv p1, jv q2, .second, iv p3, iv ln, jv rg, .second, rv b10, jv (own_waste rg ln), .second, jv ((ln.toInt64) + (16 : Int64)), .second, jv (((ln.toInt64) + (16 : Int64)) % (8 : Int64)), .second, jv ((ln.toInt64) + (16 : Int64)), .second, jv (0 : Int64), .second] [(.long rg), (.long ((ln.toInt64) + (16 : Int64))), (.long rg)]) (fun t k => XS.lload X12.here hx rfl (hb hby at_104) rfl k) ?_
        refine own_st (mkF m 107 #[iv p1, jv q2, .second, iv p3, iv ln, jv rg, .second, rv b10, jv (own_waste rg ln), .second, jv ((ln.toInt64) + (16 : Int64)), .second, jv (((ln.toInt64) + (16 : Int64)) % (8 : Int64)), .second, jv ((ln.toInt64) + (16 : Int64)), .second, jv (0 : Int64), .second] [(.long (((ln.toInt64) + (16 : Int64)) % rg)), (.long rg)]) (fun t k => own_lremM X12 hx rfl (hb hby at_106) rfl (own_pos_ne hc14) k) ?_
        refine own_st (mkF m 108 #[iv p1, jv q2, .second, iv p3, iv ln, jv rg, .second, rv b10, jv (own_waste rg ln), .second, jv ((ln.toInt64) + (16 : Int64)), .second, jv (((ln.toInt64) + (16 : Int64)) % (8 : Int64)), .second, jv ((ln.toInt64) + (16 : Int64)), .second, jv (0 : Int64), .second] [(.long (rg - (((ln.toInt64) + (16 : Int64)) % rg)))]) (fun t k => XS.lsub X12.here hx rfl (hb hby at_107) rfl k) ?_
        refine own_st (mkF m 110 #[iv p1, jv q2, .second, iv p3, iv ln, jv rg, .second, rv b10, jv (own_waste rg ln), .second, jv ((ln.toInt64) + (16 : Int64)), .second, jv (((ln.toInt64) + (16 : Int64)) % (8 : Int64)), .second, jv ((ln.toInt64) + (16 : Int64)), .second, jv (0 : Int64), .second] [(.long rg), (.long (rg - (((ln.toInt64) + (16 : Int64)) % rg)))]) (fun t k => XS.lload X12.here hx rfl (hb hby at_108) rfl k) ?_
        refine own_st (mkF m 111 #[iv p1, jv q2, .second, iv p3, iv ln, jv rg, .second, rv b10, jv (own_waste rg ln), .second, jv ((ln.toInt64) + (16 : Int64)), .second, jv (((ln.toInt64) + (16 : Int64)) % (8 : Int64)), .second, jv ((ln.toInt64) + (16 : Int64)), .second, jv (0 : Int64), .second] [(.long ((rg - (((ln.toInt64) + (16 : Int64)) % rg)) % rg))]) (fun t k => own_lremM X12 hx rfl (hb hby at_110) rfl (own_pos_ne hc14) k) ?_
        refine own_st (mkF m 113 #[iv p1, jv q2, .second, iv p3, iv ln, jv rg, .second, rv b10, jv (own_waste rg ln), .second, jv ((ln.toInt64) + (16 : Int64)), .second, jv (((ln.toInt64) + (16 : Int64)) % (8 : Int64)), .second, jv ((ln.toInt64) + (16 : Int64)), .second, jv ((rg - (((ln.toInt64) + (16 : Int64)) % rg)) % rg), .second] []) (fun t k => XS.lstore X12.here hx rfl (hb hby at_111) rfl (l' := #[iv p1, jv q2, .second, iv p3, iv ln, jv rg, .second, rv b10, jv (own_waste rg ln), .second, jv ((ln.toInt64) + (16 : Int64)), .second, jv (((ln.toInt64) + (16 : Int64)) % (8 : Int64)), .second, jv ((ln.toInt64) + (16 : Int64)), .second, jv ((rg - (((ln.toInt64) + (16 : Int64)) % rg)) % rg), .second]) rfl k) ?_
        refine own_st (mkF m 115 #[iv p1, jv q2, .second, iv p3, iv ln, jv rg, .second, rv b10, jv (own_waste rg ln), .second, jv ((ln.toInt64) + (16 : Int64)), .second, jv (((ln.toInt64) + (16 : Int64)) % (8 : Int64)), .second, jv ((ln.toInt64) + (16 : Int64)), .second, jv ((rg - (((ln.toInt64) + (16 : Int64)) % rg)) % rg), .second] [(.long (own_waste rg ln))]) (fun t k => XS.lload X12.here hx rfl (hb hby at_113) rfl k) ?_
        refine own_st (mkF m 117 #[iv p1, jv q2, .second, iv p3, iv ln, jv rg, .second, rv b10, jv (own_waste rg ln), .second, jv ((ln.toInt64) + (16 : Int64)), .second, jv (((ln.toInt64) + (16 : Int64)) % (8 : Int64)), .second, jv ((ln.toInt64) + (16 : Int64)), .second, jv ((rg - (((ln.toInt64) + (16 : Int64)) % rg)) % rg), .second] [(.long ((rg - (((ln.toInt64) + (16 : Int64)) % rg)) % rg)), (.long (own_waste rg ln))]) (fun t k => XS.lload X12.here hx rfl (hb hby at_115) rfl k) ?_
        refine own_st (mkF m 118 #[iv p1, jv q2, .second, iv p3, iv ln, jv rg, .second, rv b10, jv (own_waste rg ln), .second, jv ((ln.toInt64) + (16 : Int64)), .second, jv (((ln.toInt64) + (16 : Int64)) % (8 : Int64)), .second, jv ((ln.toInt64) + (16 : Int64)), .second, jv ((rg - (((ln.toInt64) + (16 : Int64)) % rg)) % rg), .second] [(.int (lcmpW (own_waste rg ln) ((rg - (((ln.toInt64) + (16 : Int64)) % rg)) % rg)))]) (fun t k => XS.lcmp X12.here hx rfl (hb hby at_117) rfl k) ?_
        refine own_st (mkF m 121 #[iv p1, jv q2, .second, iv p3, iv ln, jv rg, .second, rv b10, jv (own_waste rg ln), .second, jv ((ln.toInt64) + (16 : Int64)), .second, jv (((ln.toInt64) + (16 : Int64)) % (8 : Int64)), .second, jv ((ln.toInt64) + (16 : Int64)), .second, jv ((rg - (((ln.toInt64) + (16 : Int64)) % rg)) % rg), .second] []) (fun t k => XS.ifNo X12.here hx rfl (hb hby at_118) rfl (own_lne0 (by rw [own_fin _ _ hln hrg]; simp [own_sz, hc13, hc14, hc15])) k) ?_
        refine own_st (mkF m 122 #[iv p1, jv q2, .second, iv p3, iv ln, jv rg, .second, rv b10, jv (own_waste rg ln), .second, jv ((ln.toInt64) + (16 : Int64)), .second, jv (((ln.toInt64) + (16 : Int64)) % (8 : Int64)), .second, jv ((ln.toInt64) + (16 : Int64)), .second, jv ((rg - (((ln.toInt64) + (16 : Int64)) % rg)) % rg), .second] [(.int (1 : Int32))]) (fun t k => XS.iconst X12.here hx rfl (hb hby at_121) k) ?_
        refine own_st (mkF m 126 #[iv p1, jv q2, .second, iv p3, iv ln, jv rg, .second, rv b10, jv (own_waste rg ln), .second, jv ((ln.toInt64) + (16 : Int64)), .second, jv (((ln.toInt64) + (16 : Int64)) % (8 : Int64)), .second, jv ((ln.toInt64) + (16 : Int64)), .second, jv ((rg - (((ln.toInt64) + (16 : Int64)) % rg)) % rg), .second] [(.int (1 : Int32))]) (fun t k => XS.goto X12.here hx rfl (pc0 := 122) (pc' := 126) rfl (hb hby at_122) (by decide) (by decide) k) ?_
        refine own_ret X12 hlk (v := some (.int (1 : Int32))) (fun h => by rw [hret] at h; cases h) (fun fs hr => retN X12 hx (t := .boolean) hret (by simp) (hb hby at_126) hr) ?_ (by decide) (by decide)
        show own_Q0 Z p1 q2 p3 h0 n0 _ T12.heap _
        rw [e12]
        exact ⟨rfl, N12⟩
      · refine own_st (mkF m 113 #[iv p1, jv q2, .second, iv p3, iv ln, jv rg, .second, rv b10, jv (own_waste rg ln), .second, jv ((ln.toInt64) + (16 : Int64)), .second, jv (((ln.toInt64) + (16 : Int64)) % (8 : Int64)), .second, jv ((ln.toInt64) + (16 : Int64)), .second, jv (0 : Int64), .second] []) (fun t k => XS.ifYes X12.here hx rfl (pc0 := 97) (pc' := 113) rfl (hb hby at_97) rfl (own_lle1 hc15) (by decide) (by decide) k) ?_
        refine own_st (mkF m 115 #[iv p1, jv q2, .second, iv p3, iv ln, jv rg, .second, rv b10, jv (own_waste rg ln), .second, jv ((ln.toInt64) + (16 : Int64)), .second, jv (((ln.toInt64) + (16 : Int64)) % (8 : Int64)), .second, jv ((ln.toInt64) + (16 : Int64)), .second, jv (0 : Int64), .second] [(.long (own_waste rg ln))]) (fun t k => XS.lload X12.here hx rfl (hb hby at_113) rfl k) ?_
        refine own_st (mkF m 117 #[iv p1, jv q2, .second, iv p3, iv ln, jv rg, .second, rv b10, jv (own_waste rg ln), .second, jv ((ln.toInt64) + (16 : Int64)), .second, jv (((ln.toInt64) + (16 : Int64)) % (8 : Int64)), .second, jv ((ln.toInt64) + (16 : Int64)), .second, jv (0 : Int64), .second] [(.long (0 : Int64)), (.long (own_waste rg ln))]) (fun t k => XS.lload X12.here hx rfl (hb hby at_115) rfl k) ?_
        refine own_st (mkF m 118 #[iv p1, jv q2, .second, iv p3, iv ln, jv rg, .second, rv b10, jv (own_waste rg ln), .second, jv ((ln.toInt64) + (16 : Int64)), .second, jv (((ln.toInt64) + (16 : Int64)) % (8 : Int64)), .second, jv ((ln.toInt64) + (16 : Int64)), .second, jv (0 : Int64), .second] [(.int (lcmpW (own_waste rg ln) (0 : Int64)))]) (fun t k => XS.lcmp X12.here hx rfl (hb hby at_117) rfl k) ?_
        refine own_st (mkF m 121 #[iv p1, jv q2, .second, iv p3, iv ln, jv rg, .second, rv b10, jv (own_waste rg ln), .second, jv ((ln.toInt64) + (16 : Int64)), .second, jv (((ln.toInt64) + (16 : Int64)) % (8 : Int64)), .second, jv ((ln.toInt64) + (16 : Int64)), .second, jv (0 : Int64), .second] []) (fun t k => XS.ifNo X12.here hx rfl (hb hby at_118) rfl (own_lne0 (by rw [own_fin _ _ hln hrg]; simp [own_sz, hc13, hc14, hc15])) k) ?_
        refine own_st (mkF m 122 #[iv p1, jv q2, .second, iv p3, iv ln, jv rg, .second, rv b10, jv (own_waste rg ln), .second, jv ((ln.toInt64) + (16 : Int64)), .second, jv (((ln.toInt64) + (16 : Int64)) % (8 : Int64)), .second, jv ((ln.toInt64) + (16 : Int64)), .second, jv (0 : Int64), .second] [(.int (1 : Int32))]) (fun t k => XS.iconst X12.here hx rfl (hb hby at_121) k) ?_
        refine own_st (mkF m 126 #[iv p1, jv q2, .second, iv p3, iv ln, jv rg, .second, rv b10, jv (own_waste rg ln), .second, jv ((ln.toInt64) + (16 : Int64)), .second, jv (((ln.toInt64) + (16 : Int64)) % (8 : Int64)), .second, jv ((ln.toInt64) + (16 : Int64)), .second, jv (0 : Int64), .second] [(.int (1 : Int32))]) (fun t k => XS.goto X12.here hx rfl (pc0 := 122) (pc' := 126) rfl (hb hby at_122) (by decide) (by decide) k) ?_
        refine own_ret X12 hlk (v := some (.int (1 : Int32))) (fun h => by rw [hret] at h; cases h) (fun fs hr => retN X12 hx (t := .boolean) hret (by simp) (hb hby at_126) hr) ?_ (by decide) (by decide)
        show own_Q0 Z p1 q2 p3 h0 n0 _ T12.heap _
        rw [e12]
        exact ⟨rfl, N12⟩
    · refine own_st (mkF m 113 #[iv p1, jv q2, .second, iv p3, iv ln, jv rg, .second, rv b10, jv (own_waste rg ln), .second, jv ((ln.toInt64) + (16 : Int64)), .second, jv (((ln.toInt64) + (16 : Int64)) % (8 : Int64)), .second, jv ((ln.toInt64) + (16 : Int64)), .second, jv (0 : Int64), .second] []) (fun t k => XS.ifYes X12.here hx rfl (pc0 := 85) (pc' := 113) rfl (hb hby at_85) rfl (own_lle1 hc14) (by decide) (by decide) k) ?_
      refine own_st (mkF m 115 #[iv p1, jv q2, .second, iv p3, iv ln, jv rg, .second, rv b10, jv (own_waste rg ln), .second, jv ((ln.toInt64) + (16 : Int64)), .second, jv (((ln.toInt64) + (16 : Int64)) % (8 : Int64)), .second, jv ((ln.toInt64) + (16 : Int64)), .second, jv (0 : Int64), .second] [(.long (own_waste rg ln))]) (fun t k => XS.lload X12.here hx rfl (hb hby at_113) rfl k) ?_
      refine own_st (mkF m 117 #[iv p1, jv q2, .second, iv p3, iv ln, jv rg, .second, rv b10, jv (own_waste rg ln), .second, jv ((ln.toInt64) + (16 : Int64)), .second, jv (((ln.toInt64) + (16 : Int64)) % (8 : Int64)), .second, jv ((ln.toInt64) + (16 : Int64)), .second, jv (0 : Int64), .second] [(.long (0 : Int64)), (.long (own_waste rg ln))]) (fun t k => XS.lload X12.here hx rfl (hb hby at_115) rfl k) ?_
      refine own_st (mkF m 118 #[iv p1, jv q2, .second, iv p3, iv ln, jv rg, .second, rv b10, jv (own_waste rg ln), .second, jv ((ln.toInt64) + (16 : Int64)), .second, jv (((ln.toInt64) + (16 : Int64)) % (8 : Int64)), .second, jv ((ln.toInt64) + (16 : Int64)), .second, jv (0 : Int64), .second] [(.int (lcmpW (own_waste rg ln) (0 : Int64)))]) (fun t k => XS.lcmp X12.here hx rfl (hb hby at_117) rfl k) ?_
      refine own_st (mkF m 121 #[iv p1, jv q2, .second, iv p3, iv ln, jv rg, .second, rv b10, jv (own_waste rg ln), .second, jv ((ln.toInt64) + (16 : Int64)), .second, jv (((ln.toInt64) + (16 : Int64)) % (8 : Int64)), .second, jv ((ln.toInt64) + (16 : Int64)), .second, jv (0 : Int64), .second] []) (fun t k => XS.ifNo X12.here hx rfl (hb hby at_118) rfl (own_lne0 (by rw [own_fin _ _ hln hrg]; simp [own_sz, hc13, hc14])) k) ?_
      refine own_st (mkF m 122 #[iv p1, jv q2, .second, iv p3, iv ln, jv rg, .second, rv b10, jv (own_waste rg ln), .second, jv ((ln.toInt64) + (16 : Int64)), .second, jv (((ln.toInt64) + (16 : Int64)) % (8 : Int64)), .second, jv ((ln.toInt64) + (16 : Int64)), .second, jv (0 : Int64), .second] [(.int (1 : Int32))]) (fun t k => XS.iconst X12.here hx rfl (hb hby at_121) k) ?_
      refine own_st (mkF m 126 #[iv p1, jv q2, .second, iv p3, iv ln, jv rg, .second, rv b10, jv (own_waste rg ln), .second, jv ((ln.toInt64) + (16 : Int64)), .second, jv (((ln.toInt64) + (16 : Int64)) % (8 : Int64)), .second, jv ((ln.toInt64) + (16 : Int64)), .second, jv (0 : Int64), .second] [(.int (1 : Int32))]) (fun t k => XS.goto X12.here hx rfl (pc0 := 122) (pc' := 126) rfl (hb hby at_122) (by decide) (by decide) k) ?_
      refine own_ret X12 hlk (v := some (.int (1 : Int32))) (fun h => by rw [hret] at h; cases h) (fun fs hr => retN X12 hx (t := .boolean) hret (by simp) (hb hby at_126) hr) ?_ (by decide) (by decide)
      show own_Q0 Z p1 q2 p3 h0 n0 _ T12.heap _
      rw [e12]
      exact ⟨rfl, N12⟩
  · refine own_st (mkF m 67 #[iv p1, jv q2, .second, iv p3, iv ln, jv rg, .second, rv b10, jv (own_waste rg ln), .second, jv ((ln.toInt64) + (16 : Int64)), .second, jv (((ln.toInt64) + (16 : Int64)) % (8 : Int64)), .second, .unset, .unset, .unset, .unset] []) (fun t k => XS.ifYes X12.here hx rfl (pc0 := 59) (pc' := 67) rfl (hb hby at_59) rfl (own_lne1 hc13) (by decide) (by decide) k) ?_
    refine own_st (mkF m 69 #[iv p1, jv q2, .second, iv p3, iv ln, jv rg, .second, rv b10, jv (own_waste rg ln), .second, jv ((ln.toInt64) + (16 : Int64)), .second, jv (((ln.toInt64) + (16 : Int64)) % (8 : Int64)), .second, .unset, .unset, .unset, .unset] [(.long ((ln.toInt64) + (16 : Int64)))]) (fun t k => XS.lload X12.here hx rfl (hb hby at_67) rfl k) ?_
    refine own_st (mkF m 72 #[iv p1, jv q2, .second, iv p3, iv ln, jv rg, .second, rv b10, jv (own_waste rg ln), .second, jv ((ln.toInt64) + (16 : Int64)), .second, jv (((ln.toInt64) + (16 : Int64)) % (8 : Int64)), .second, .unset, .unset, .unset, .unset] [(.long (8 : Int64)), (.long ((ln.toInt64) + (16 : Int64)))]) (fun t k => X12.ldc2Long hx hown (mvT hZ (hw_22 hw)) (g := (mkF m 69 #[iv p1, jv q2, .second, iv p3, iv ln, jv rg, .second, rv b10, jv (own_waste rg ln), .second, jv ((ln.toInt64) + (16 : Int64)), .second, jv (((ln.toInt64) + (16 : Int64)) % (8 : Int64)), .second, .unset, .unset, .unset, .unset] [(.long ((ln.toInt64) + (16 : Int64)))])) rfl (hb hby at_69) _ k) ?_
    refine own_st (mkF m 74 #[iv p1, jv q2, .second, iv p3, iv ln, jv rg, .second, rv b10, jv (own_waste rg ln), .second, jv ((ln.toInt64) + (16 : Int64)), .second, jv (((ln.toInt64) + (16 : Int64)) % (8 : Int64)), .second, .unset, .unset, .unset, .unset] [(.long (((ln.toInt64) + (16 : Int64)) % (8 : Int64))), (.long (8 : Int64)), (.long ((ln.toInt64) + (16 : Int64)))]) (fun t k => XS.lload X12.here hx rfl (hb hby at_72) rfl k) ?_
    refine own_st (mkF m 75 #[iv p1, jv q2, .second, iv p3, iv ln, jv rg, .second, rv b10, jv (own_waste rg ln), .second, jv ((ln.toInt64) + (16 : Int64)), .second, jv (((ln.toInt64) + (16 : Int64)) % (8 : Int64)), .second, .unset, .unset, .unset, .unset] [(.long ((8 : Int64) - (((ln.toInt64) + (16 : Int64)) % (8 : Int64)))), (.long ((ln.toInt64) + (16 : Int64)))]) (fun t k => XS.lsub X12.here hx rfl (hb hby at_74) rfl k) ?_
    refine own_st (mkF m 76 #[iv p1, jv q2, .second, iv p3, iv ln, jv rg, .second, rv b10, jv (own_waste rg ln), .second, jv ((ln.toInt64) + (16 : Int64)), .second, jv (((ln.toInt64) + (16 : Int64)) % (8 : Int64)), .second, .unset, .unset, .unset, .unset] [(.long (((ln.toInt64) + (16 : Int64)) + ((8 : Int64) - (((ln.toInt64) + (16 : Int64)) % (8 : Int64)))))]) (fun t k => XS.ladd X12.here hx rfl (hb hby at_75) rfl k) ?_
    refine own_st (mkF m 78 #[iv p1, jv q2, .second, iv p3, iv ln, jv rg, .second, rv b10, jv (own_waste rg ln), .second, jv ((ln.toInt64) + (16 : Int64)), .second, jv (((ln.toInt64) + (16 : Int64)) % (8 : Int64)), .second, jv (((ln.toInt64) + (16 : Int64)) + ((8 : Int64) - (((ln.toInt64) + (16 : Int64)) % (8 : Int64)))), .second, .unset, .unset] []) (fun t k => XS.lstore X12.here hx rfl (hb hby at_76) rfl (l' := #[iv p1, jv q2, .second, iv p3, iv ln, jv rg, .second, rv b10, jv (own_waste rg ln), .second, jv ((ln.toInt64) + (16 : Int64)), .second, jv (((ln.toInt64) + (16 : Int64)) % (8 : Int64)), .second, jv (((ln.toInt64) + (16 : Int64)) + ((8 : Int64) - (((ln.toInt64) + (16 : Int64)) % (8 : Int64)))), .second, .unset, .unset]) rfl k) ?_
    refine own_st (mkF m 79 #[iv p1, jv q2, .second, iv p3, iv ln, jv rg, .second, rv b10, jv (own_waste rg ln), .second, jv ((ln.toInt64) + (16 : Int64)), .second, jv (((ln.toInt64) + (16 : Int64)) % (8 : Int64)), .second, jv (((ln.toInt64) + (16 : Int64)) + ((8 : Int64) - (((ln.toInt64) + (16 : Int64)) % (8 : Int64)))), .second, .unset, .unset] [(.long (0 : Int64))]) (fun t k => XS.lconst X12.here hx rfl (hb hby at_78) k) ?_
    refine own_st (mkF m 81 #[iv p1, jv q2, .second, iv p3, iv ln, jv rg, .second, rv b10, jv (own_waste rg ln), .second, jv ((ln.toInt64) + (16 : Int64)), .second, jv (((ln.toInt64) + (16 : Int64)) % (8 : Int64)), .second, jv (((ln.toInt64) + (16 : Int64)) + ((8 : Int64) - (((ln.toInt64) + (16 : Int64)) % (8 : Int64)))), .second, jv (0 : Int64), .second] []) (fun t k => XS.lstore X12.here hx rfl (hb hby at_79) rfl (l' := #[iv p1, jv q2, .second, iv p3, iv ln, jv rg, .second, rv b10, jv (own_waste rg ln), .second, jv ((ln.toInt64) + (16 : Int64)), .second, jv (((ln.toInt64) + (16 : Int64)) % (8 : Int64)), .second, jv (((ln.toInt64) + (16 : Int64)) + ((8 : Int64) - (((ln.toInt64) + (16 : Int64)) % (8 : Int64)))), .second, jv (0 : Int64), .second]) rfl k) ?_
    refine own_st (mkF m 83 #[iv p1, jv q2, .second, iv p3, iv ln, jv rg, .second, rv b10, jv (own_waste rg ln), .second, jv ((ln.toInt64) + (16 : Int64)), .second, jv (((ln.toInt64) + (16 : Int64)) % (8 : Int64)), .second, jv (((ln.toInt64) + (16 : Int64)) + ((8 : Int64) - (((ln.toInt64) + (16 : Int64)) % (8 : Int64)))), .second, jv (0 : Int64), .second] [(.long rg)]) (fun t k => XS.lload X12.here hx rfl (hb hby at_81) rfl k) ?_
    refine own_st (mkF m 84 #[iv p1, jv q2, .second, iv p3, iv ln, jv rg, .second, rv b10, jv (own_waste rg ln), .second, jv ((ln.toInt64) + (16 : Int64)), .second, jv (((ln.toInt64) + (16 : Int64)) % (8 : Int64)), .second, jv (((ln.toInt64) + (16 : Int64)) + ((8 : Int64) - (((ln.toInt64) + (16 : Int64)) % (8 : Int64)))), .second, jv (0 : Int64), .second] [(.long (0 : Int64)), (.long rg)]) (fun t k => XS.lconst X12.here hx rfl (hb hby at_83) k) ?_
    refine own_st (mkF m 85 #[iv p1, jv q2, .second, iv p3, iv ln, jv rg, .second, rv b10, jv (own_waste rg ln), .second, jv ((ln.toInt64) + (16 : Int64)), .second, jv (((ln.toInt64) + (16 : Int64)) % (8 : Int64)), .second, jv (((ln.toInt64) + (16 : Int64)) + ((8 : Int64) - (((ln.toInt64) + (16 : Int64)) % (8 : Int64)))), .second, jv (0 : Int64), .second] [(.int (lcmpW rg (0 : Int64)))]) (fun t k => XS.lcmp X12.here hx rfl (hb hby at_84) rfl k) ?_
    by_cases hc16 : (0 : Int64) < rg
    · refine own_st (mkF m 88 #[iv p1, jv q2, .second, iv p3, iv ln, jv rg, .second, rv b10, jv (own_waste rg ln), .second, jv ((ln.toInt64) + (16 : Int64)), .second, jv (((ln.toInt64) + (16 : Int64)) % (8 : Int64)), .second, jv (((ln.toInt64) + (16 : Int64)) + ((8 : Int64) - (((ln.toInt64) + (16 : Int64)) % (8 : Int64)))), .second, jv (0 : Int64), .second] []) (fun t k => XS.ifNo X12.here hx rfl (hb hby at_85) rfl (own_lle0 hc16) k) ?_
      refine own_st (mkF m 91 #[iv p1, jv q2, .second, iv p3, iv ln, jv rg, .second, rv b10, jv (own_waste rg ln), .second, jv ((ln.toInt64) + (16 : Int64)), .second, jv (((ln.toInt64) + (16 : Int64)) % (8 : Int64)), .second, jv (((ln.toInt64) + (16 : Int64)) + ((8 : Int64) - (((ln.toInt64) + (16 : Int64)) % (8 : Int64)))), .second, jv (0 : Int64), .second] [(.long (2 : Int64))]) (fun t k => X12.ldc2Long hx hown (mvT hZ (hw_23 hw)) (g := (mkF m 88 #[iv p1, jv q2, .second, iv p3, iv ln, jv rg, .second, rv b10, jv (own_waste rg ln), .second, jv ((ln.toInt64) + (16 : Int64)), .second, jv (((ln.toInt64) + (16 : Int64)) % (8 : Int64)), .second, jv (((ln.toInt64) + (16 : Int64)) + ((8 : Int64) - (((ln.toInt64) + (16 : Int64)) % (8 : Int64)))), .second, jv (0 : Int64), .second] [])) rfl (hb hby at_88) _ k) ?_
      refine own_st (mkF m 93 #[iv p1, jv q2, .second, iv p3, iv ln, jv rg, .second, rv b10, jv (own_waste rg ln), .second, jv ((ln.toInt64) + (16 : Int64)), .second, jv (((ln.toInt64) + (16 : Int64)) % (8 : Int64)), .second, jv (((ln.toInt64) + (16 : Int64)) + ((8 : Int64) - (((ln.toInt64) + (16 : Int64)) % (8 : Int64)))), .second, jv (0 : Int64), .second] [(.long (((ln.toInt64) + (16 : Int64)) + ((8 : Int64) - (((ln.toInt64) + (16 : Int64)) % (8 : Int64))))), (.long (2 : Int64))]) (fun t k => XS.lload X12.here hx rfl (hb hby at_91) rfl k) ?_
      refine own_st (mkF m 94 #[iv p1, jv q2, .second, iv p3, iv ln, jv rg, .second, rv b10, jv (own_waste rg ln), .second, jv ((ln.toInt64) + (16 : Int64)), .second, jv (((ln.toInt64) + (16 : Int64)) % (8 : Int64)), .second, jv (((ln.toInt64) + (16 : Int64)) + ((8 : Int64) - (((ln.toInt64) + (16 : Int64)) % (8 : Int64)))), .second, jv (0 : Int64), .second] [(.long ((2 : Int64) * (((ln.toInt64) + (16 : Int64)) + ((8 : Int64) - (((ln.toInt64) + (16 : Int64)) % (8 : Int64))))))]) (fun t k => XS.lmul X12.here hx rfl (hb hby at_93) rfl k) ?_
      refine own_st (mkF m 96 #[iv p1, jv q2, .second, iv p3, iv ln, jv rg, .second, rv b10, jv (own_waste rg ln), .second, jv ((ln.toInt64) + (16 : Int64)), .second, jv (((ln.toInt64) + (16 : Int64)) % (8 : Int64)), .second, jv (((ln.toInt64) + (16 : Int64)) + ((8 : Int64) - (((ln.toInt64) + (16 : Int64)) % (8 : Int64)))), .second, jv (0 : Int64), .second] [(.long rg), (.long ((2 : Int64) * (((ln.toInt64) + (16 : Int64)) + ((8 : Int64) - (((ln.toInt64) + (16 : Int64)) % (8 : Int64))))))]) (fun t k => XS.lload X12.here hx rfl (hb hby at_94) rfl k) ?_
      refine own_st (mkF m 97 #[iv p1, jv q2, .second, iv p3, iv ln, jv rg, .second, rv b10, jv (own_waste rg ln), .second, jv ((ln.toInt64) + (16 : Int64)), .second, jv (((ln.toInt64) + (16 : Int64)) % (8 : Int64)), .second, jv (((ln.toInt64) + (16 : Int64)) + ((8 : Int64) - (((ln.toInt64) + (16 : Int64)) % (8 : Int64)))), .second, jv (0 : Int64), .second] [(.int (lcmpW ((2 : Int64) * (((ln.toInt64) + (16 : Int64)) + ((8 : Int64) - (((ln.toInt64) + (16 : Int64)) % (8 : Int64))))) rg))]) (fun t k => XS.lcmp X12.here hx rfl (hb hby at_96) rfl k) ?_
      by_cases hc17 : rg < ((2 : Int64) * (((ln.toInt64) + (16 : Int64)) + ((8 : Int64) - (((ln.toInt64) + (16 : Int64)) % (8 : Int64)))))
      · refine own_st (mkF m 100 #[iv p1, jv q2, .second, iv p3, iv ln, jv rg, .second, rv b10, jv (own_waste rg ln), .second, jv ((ln.toInt64) + (16 : Int64)), .second, jv (((ln.toInt64) + (16 : Int64)) % (8 : Int64)), .second, jv (((ln.toInt64) + (16 : Int64)) + ((8 : Int64) - (((ln.toInt64) + (16 : Int64)) % (8 : Int64)))), .second, jv (0 : Int64), .second] []) (fun t k => XS.ifNo X12.here hx rfl (hb hby at_97) rfl (own_lle0 hc17) k) ?_
        refine own_st (mkF m 102 #[iv p1, jv q2, .second, iv p3, iv ln, jv rg, .second, rv b10, jv (own_waste rg ln), .second, jv ((ln.toInt64) + (16 : Int64)), .second, jv (((ln.toInt64) + (16 : Int64)) % (8 : Int64)), .second, jv (((ln.toInt64) + (16 : Int64)) + ((8 : Int64) - (((ln.toInt64) + (16 : Int64)) % (8 : Int64)))), .second, jv (0 : Int64), .second] [(.long rg)]) (fun t k => XS.lload X12.here hx rfl (hb hby at_100) rfl k) ?_
        refine own_st (mkF m 104 #[iv p1, jv q2, .second, iv p3, iv ln, jv rg, .second, rv b10, jv (own_waste rg ln), .second, jv ((ln.toInt64) + (16 : Int64)), .second, jv (((ln.toInt64) + (16 : Int64)) % (8 : Int64)), .second, jv (((ln.toInt64) + (16 : Int64)) + ((8 : Int64) - (((ln.toInt64) + (16 : Int64)) % (8 : Int64)))), .second, jv (0 : Int64), .second] [(.long (((ln.toInt64) + (16 : Int64)) + ((8 : Int64) - (((ln.toInt64) + (16 : Int64)) % (8 : Int64))))), (.long rg)]) (fun t k => XS.lload X12.here hx rfl (hb hby at_102) rfl k) ?_
        refine own_st (mkF m 106 #[iv p1, jv q2, .second, iv p3, iv ln, jv rg, .second, rv b10, jv (own_waste rg ln), .second, jv ((ln.toInt64) + (16 : Int64)), .second, jv (((ln.toInt64) + (16 : Int64)) % (8 : Int64)), .second, jv (((ln.toInt64) + (16 : Int64)) + ((8 : Int64) - (((ln.toInt64) + (16 : Int64)) % (8 : Int64)))), .second, jv (0 : Int64), .second] [(.long rg), (.long (((ln.toInt64) + (16 : Int64)) + ((8 : Int64) - (((ln.toInt64) + (16 : Int64)) % (8 : Int64))))), (.long rg)]) (fun t k => XS.lload X12.here hx rfl (hb hby at_104) rfl k) ?_
        refine own_st (mkF m 107 #[iv p1, jv q2, .second, iv p3, iv ln, jv rg, .second, rv b10, jv (own_waste rg ln), .second, jv ((ln.toInt64) + (16 : Int64)), .second, jv (((ln.toInt64) + (16 : Int64)) % (8 : Int64)), .second, jv (((ln.toInt64) + (16 : Int64)) + ((8 : Int64) - (((ln.toInt64) + (16 : Int64)) % (8 : Int64)))), .second, jv (0 : Int64), .second] [(.long ((((ln.toInt64) + (16 : Int64)) + ((8 : Int64) - (((ln.toInt64) + (16 : Int64)) % (8 : Int64)))) % rg)), (.long rg)]) (fun t k => own_lremM X12 hx rfl (hb hby at_106) rfl (own_pos_ne hc16) k) ?_
        refine own_st (mkF m 108 #[iv p1, jv q2, .second, iv p3, iv ln, jv rg, .second, rv b10, jv (own_waste rg ln), .second, jv ((ln.toInt64) + (16 : Int64)), .second, jv (((ln.toInt64) + (16 : Int64)) % (8 : Int64)), .second, jv (((ln.toInt64) + (16 : Int64)) + ((8 : Int64) - (((ln.toInt64) + (16 : Int64)) % (8 : Int64)))), .second, jv (0 : Int64), .second] [(.long (rg - ((((ln.toInt64) + (16 : Int64)) + ((8 : Int64) - (((ln.toInt64) + (16 : Int64)) % (8 : Int64)))) % rg)))]) (fun t k => XS.lsub X12.here hx rfl (hb hby at_107) rfl k) ?_
        refine own_st (mkF m 110 #[iv p1, jv q2, .second, iv p3, iv ln, jv rg, .second, rv b10, jv (own_waste rg ln), .second, jv ((ln.toInt64) + (16 : Int64)), .second, jv (((ln.toInt64) + (16 : Int64)) % (8 : Int64)), .second, jv (((ln.toInt64) + (16 : Int64)) + ((8 : Int64) - (((ln.toInt64) + (16 : Int64)) % (8 : Int64)))), .second, jv (0 : Int64), .second] [(.long rg), (.long (rg - ((((ln.toInt64) + (16 : Int64)) + ((8 : Int64) - (((ln.toInt64) + (16 : Int64)) % (8 : Int64)))) % rg)))]) (fun t k => XS.lload X12.here hx rfl (hb hby at_108) rfl k) ?_
        refine own_st (mkF m 111 #[iv p1, jv q2, .second, iv p3, iv ln, jv rg, .second, rv b10, jv (own_waste rg ln), .second, jv ((ln.toInt64) + (16 : Int64)), .second, jv (((ln.toInt64) + (16 : Int64)) % (8 : Int64)), .second, jv (((ln.toInt64) + (16 : Int64)) + ((8 : Int64) - (((ln.toInt64) + (16 : Int64)) % (8 : Int64)))), .second, jv (0 : Int64), .second] [(.long ((rg - ((((ln.toInt64) + (16 : Int64)) + ((8 : Int64) - (((ln.toInt64) + (16 : Int64)) % (8 : Int64)))) % rg)) % rg))]) (fun t k => own_lremM X12 hx rfl (hb hby at_110) rfl (own_pos_ne hc16) k) ?_
        refine own_st (mkF m 113 #[iv p1, jv q2, .second, iv p3, iv ln, jv rg, .second, rv b10, jv (own_waste rg ln), .second, jv ((ln.toInt64) + (16 : Int64)), .second, jv (((ln.toInt64) + (16 : Int64)) % (8 : Int64)), .second, jv (((ln.toInt64) + (16 : Int64)) + ((8 : Int64) - (((ln.toInt64) + (16 : Int64)) % (8 : Int64)))), .second, jv ((rg - ((((ln.toInt64) + (16 : Int64)) + ((8 : Int64) - (((ln.toInt64) + (16 : Int64)) % (8 : Int64)))) % rg)) % rg), .second] []) (fun t k => XS.lstore X12.here hx rfl (hb hby at_111) rfl (l' := #[iv p1, jv q2, .second, iv p3, iv ln, jv rg, .second, rv b10, jv (own_waste rg ln), .second, jv ((ln.toInt64) + (16 : Int64)), .second, jv (((ln.toInt64) + (16 : Int64)) % (8 : Int64)), .second, jv (((ln.toInt64) + (16 : Int64)) + ((8 : Int64) - (((ln.toInt64) + (16 : Int64)) % (8 : Int64)))), .second, jv ((rg - ((((ln.toInt64) + (16 : Int64)) + ((8 : Int64) - (((ln.toInt64) + (16 : Int64)) % (8 : Int64)))) % rg)) % rg), .second]) rfl k) ?_
        refine own_st (mkF m 115 #[iv p1, jv q2, .second, iv p3, iv ln, jv rg, .second, rv b10, jv (own_waste rg ln), .second, jv ((ln.toInt64) + (16 : Int64)), .second, jv (((ln.toInt64) + (16 : Int64)) % (8 : Int64)), .second, jv (((ln.toInt64) + (16 : Int64)) + ((8 : Int64) - (((ln.toInt64) + (16 : Int64)) % (8 : Int64)))), .second, jv ((rg - ((((ln.toInt64) + (16 : Int64)) + ((8 : Int64) - (((ln.toInt64) + (16 : Int64)) % (8 : Int64)))) % rg)) % rg), .second] [(.long (own_waste rg ln))]) (fun t k => XS.lload X12.here hx rfl (hb hby at_113) rfl k) ?_
        refine own_st (mkF m 117 #[iv p1, jv q2, .second, iv p3, iv ln, jv rg, .second, rv b10, jv (own_waste rg ln), .second, jv ((ln.toInt64) + (16 : Int64)), .second, jv (((ln.toInt64) + (16 : Int64)) % (8 : Int64)), .second, jv (((ln.toInt64) + (16 : Int64)) + ((8 : Int64) - (((ln.toInt64) + (16 : Int64)) % (8 : Int64)))), .second, jv ((rg - ((((ln.toInt64) + (16 : Int64)) + ((8 : Int64) - (((ln.toInt64) + (16 : Int64)) % (8 : Int64)))) % rg)) % rg), .second] [(.long ((rg - ((((ln.toInt64) + (16 : Int64)) + ((8 : Int64) - (((ln.toInt64) + (16 : Int64)) % (8 : Int64)))) % rg)) % rg)), (.long (own_waste rg ln))]) (fun t k => XS.lload X12.here hx rfl (hb hby at_115) rfl k) ?_
        refine own_st (mkF m 118 #[iv p1, jv q2, .second, iv p3, iv ln, jv rg, .second, rv b10, jv (own_waste rg ln), .second, jv ((ln.toInt64) + (16 : Int64)), .second, jv (((ln.toInt64) + (16 : Int64)) % (8 : Int64)), .second, jv (((ln.toInt64) + (16 : Int64)) + ((8 : Int64) - (((ln.toInt64) + (16 : Int64)) % (8 : Int64)))), .second, jv ((rg - ((((ln.toInt64) + (16 : Int64)) + ((8 : Int64) - (((ln.toInt64) + (16 : Int64)) % (8 : Int64)))) % rg)) % rg), .second] [(.int (lcmpW (own_waste rg ln) ((rg - ((((ln.toInt64) + (16 : Int64)) + ((8 : Int64) - (((ln.toInt64) + (16 : Int64)) % (8 : Int64)))) % rg)) % rg)))]) (fun t k => XS.lcmp X12.here hx rfl (hb hby at_117) rfl k) ?_
        refine own_st (mkF m 121 #[iv p1, jv q2, .second, iv p3, iv ln, jv rg, .second, rv b10, jv (own_waste rg ln), .second, jv ((ln.toInt64) + (16 : Int64)), .second, jv (((ln.toInt64) + (16 : Int64)) % (8 : Int64)), .second, jv (((ln.toInt64) + (16 : Int64)) + ((8 : Int64) - (((ln.toInt64) + (16 : Int64)) % (8 : Int64)))), .second, jv ((rg - ((((ln.toInt64) + (16 : Int64)) + ((8 : Int64) - (((ln.toInt64) + (16 : Int64)) % (8 : Int64)))) % rg)) % rg), .second] []) (fun t k => XS.ifNo X12.here hx rfl (hb hby at_118) rfl (own_lne0 (by rw [own_fin _ _ hln hrg]; simp [own_sz, hc13, hc16, hc17])) k) ?_
        refine own_st (mkF m 122 #[iv p1, jv q2, .second, iv p3, iv ln, jv rg, .second, rv b10, jv (own_waste rg ln), .second, jv ((ln.toInt64) + (16 : Int64)), .second, jv (((ln.toInt64) + (16 : Int64)) % (8 : Int64)), .second, jv (((ln.toInt64) + (16 : Int64)) + ((8 : Int64) - (((ln.toInt64) + (16 : Int64)) % (8 : Int64)))), .second, jv ((rg - ((((ln.toInt64) + (16 : Int64)) + ((8 : Int64) - (((ln.toInt64) + (16 : Int64)) % (8 : Int64)))) % rg)) % rg), .second] [(.int (1 : Int32))]) (fun t k => XS.iconst X12.here hx rfl (hb hby at_121) k) ?_
        refine own_st (mkF m 126 #[iv p1, jv q2, .second, iv p3, iv ln, jv rg, .second, rv b10, jv (own_waste rg ln), .second, jv ((ln.toInt64) + (16 : Int64)), .second, jv (((ln.toInt64) + (16 : Int64)) % (8 : Int64)), .second, jv (((ln.toInt64) + (16 : Int64)) + ((8 : Int64) - (((ln.toInt64) + (16 : Int64)) % (8 : Int64)))), .second, jv ((rg - ((((ln.toInt64) + (16 : Int64)) + ((8 : Int64) - (((ln.toInt64) + (16 : Int64)) % (8 : Int64)))) % rg)) % rg), .second] [(.int (1 : Int32))]) (fun t k => XS.goto X12.here hx rfl (pc0 := 122) (pc' := 126) rfl (hb hby at_122) (by decide) (by decide) k) ?_
        refine own_ret X12 hlk (v := some (.int (1 : Int32))) (fun h => by rw [hret] at h; cases h) (fun fs hr => retN X12 hx (t := .boolean) hret (by simp) (hb hby at_126) hr) ?_ (by decide) (by decide)
        show own_Q0 Z p1 q2 p3 h0 n0 _ T12.heap _
        rw [e12]
        exact ⟨rfl, N12⟩
      · refine own_st (mkF m 113 #[iv p1, jv q2, .second, iv p3, iv ln, jv rg, .second, rv b10, jv (own_waste rg ln), .second, jv ((ln.toInt64) + (16 : Int64)), .second, jv (((ln.toInt64) + (16 : Int64)) % (8 : Int64)), .second, jv (((ln.toInt64) + (16 : Int64)) + ((8 : Int64) - (((ln.toInt64) + (16 : Int64)) % (8 : Int64)))), .second, jv (0 : Int64), .second] []) (fun t k => XS.ifYes X12.here hx rfl (pc0 := 97) (pc' := 113) rfl (hb hby at_97) rfl (own_lle1 hc17) (by decide) (by decide) k) ?_
        refine own_st (mkF m 115 #[iv p1, jv q2, .second, iv p3, iv ln, jv rg, .second, rv b10, jv (own_waste rg ln), .second, jv ((ln.toInt64) + (16 : Int64)), .second, jv (((ln.toInt64) + (16 : Int64)) % (8 : Int64)), .second, jv (((ln.toInt64) + (16 : Int64)) + ((8 : Int64) - (((ln.toInt64) + (16 : Int64)) % (8 : Int64)))), .second, jv (0 : Int64), .second] [(.long (own_waste rg ln))]) (fun t k => XS.lload X12.here hx rfl (hb hby at_113) rfl k) ?_
        refine own_st (mkF m 117 #[iv p1, jv q2, .second, iv p3, iv ln, jv rg, .second, rv b10, jv (own_waste rg ln), .second, jv ((ln.toInt64) + (16 : Int64)), .second, jv (((ln.toInt64) + (16 : Int64)) % (8 : Int64)), .second, jv (((ln.toInt64) + (16 : Int64)) + ((8 : Int64) - (((ln.toInt64) + (16 : Int64)) % (8 : Int64)))), .second, jv (0 : Int64), .second] [(.long (0 : Int64)), (.long (own_waste rg ln))]) (fun t k => XS.lload X12.here hx rfl (hb hby at_115) rfl k) ?_
        refine own_st (mkF m 118 #[iv p1, jv q2, .second, iv p3, iv ln, jv rg, .second, rv b10, jv (own_waste rg ln), .second, jv ((ln.toInt64) + (16 : Int64)), .second, jv (((ln.toInt64) + (16 : Int64)) % (8 : Int64)), .second, jv (((ln.toInt64) + (16 : Int64)) + ((8 : Int64) - (((ln.toInt64) + (16 : Int64)) % (8 : Int64)))), .second, jv (0 : Int64), .second] [(.int (lcmpW (own_waste rg ln) (0 : Int64)))]) (fun t k => XS.lcmp X12.here hx rfl (hb hby at_117) rfl k) ?_
        refine own_st (mkF m 121 #[iv p1, jv q2, .second, iv p3, iv ln, jv rg, .second, rv b10, jv (own_waste rg ln), .second, jv ((ln.toInt64) + (16 : Int64)), .second, jv (((ln.toInt64) + (16 : Int64)) % (8 : Int64)), .second, jv (((ln.toInt64) + (16 : Int64)) + ((8 : Int64) - (((ln.toInt64) + (16 : Int64)) % (8 : Int64)))), .second, jv (0 : Int64), .second] []) (fun t k => XS.ifNo X12.here hx rfl (hb hby at_118) rfl (own_lne0 (by rw [own_fin _ _ hln hrg]; simp [own_sz, hc13, hc16, hc17])) k) ?_
        refine own_st (mkF m 122 #[iv p1, jv q2, .second, iv p3, iv ln, jv rg, .second, rv b10, jv (own_waste rg ln), .second, jv ((ln.toInt64) + (16 : Int64)), .second, jv (((ln.toInt64) + (16 : Int64)) % (8 : Int64)), .second, jv (((ln.toInt64) + (16 : Int64)) + ((8 : Int64) - (((ln.toInt64) + (16 : Int64)) % (8 : Int64)))), .second, jv (0 : Int64), .second] [(.int (1 : Int32))]) (fun t k => XS.iconst X12.here hx rfl (hb hby at_121) k) ?_
        refine own_st (mkF m 126 #[iv p1, jv q2, .second, iv p3, iv ln, jv rg, .second, rv b10, jv (own_waste rg ln), .second, jv ((ln.toInt64) + (16 : Int64)), .second, jv (((ln.toInt64) + (16 : Int64)) % (8 : Int64)), .second, jv (((ln.toInt64) + (16 : Int64)) + ((8 : Int64) - (((ln.toInt64) + (16 : Int64)) % (8 : Int64)))), .second, jv (0 : Int64), .second] [(.int (1 : Int32))]) (fun t k => XS.goto X12.here hx rfl (pc0 := 122) (pc' := 126) rfl (hb hby at_122) (by decide) (by decide) k) ?_
        refine own_ret X12 hlk (v := some (.int (1 : Int32))) (fun h => by rw [hret] at h; cases h) (fun fs hr => retN X12 hx (t := .boolean) hret (by simp) (hb hby at_126) hr) ?_ (by decide) (by decide)
        show own_Q0 Z p1 q2 p3 h0 n0 _ T12.heap _
        rw [e12]
        exact ⟨rfl, N12⟩
    · refine own_st (mkF m 113 #[iv p1, jv q2, .second, iv p3, iv ln, jv rg, .second, rv b10, jv (own_waste rg ln), .second, jv ((ln.toInt64) + (16 : Int64)), .second, jv (((ln.toInt64) + (16 : Int64)) % (8 : Int64)), .second, jv (((ln.toInt64) + (16 : Int64)) + ((8 : Int64) - (((ln.toInt64) + (16 : Int64)) % (8 : Int64)))), .second, jv (0 : Int64), .second] []) (fun t k => XS.ifYes X12.here hx rfl (pc0 := 85) (pc' := 113) rfl (hb hby at_85) rfl (own_lle1 hc16) (by decide) (by decide) k) ?_
      refine own_st (mkF m 115 #[iv p1, jv q2, .second, iv p3, iv ln, jv rg, .second, rv b10, jv (own_waste rg ln), .second, jv ((ln.toInt64) + (16 : Int64)), .second, jv (((ln.toInt64) + (16 : Int64)) % (8 : Int64)), .second, jv (((ln.toInt64) + (16 : Int64)) + ((8 : Int64) - (((ln.toInt64) + (16 : Int64)) % (8 : Int64)))), .second, jv (0 : Int64), .second] [(.long (own_waste rg ln))]) (fun t k => XS.lload X12.here hx rfl (hb hby at_113) rfl k) ?_
      refine own_st (mkF m 117 #[iv p1, jv q2, .second, iv p3, iv ln, jv rg, .second, rv b10, jv (own_waste rg ln), .second, jv ((ln.toInt64) + (16 : Int64)), .second, jv (((ln.toInt64) + (16 : Int64)) % (8 : Int64)), .second, jv (((ln.toInt64) + (16 : Int64)) + ((8 : Int64) - (((ln.toInt64) + (16 : Int64)) % (8 : Int64)))), .second, jv (0 : Int64), .second] [(.long (0 : Int64)), (.long (own_waste rg ln))]) (fun t k => XS.lload X12.here hx rfl (hb hby at_115) rfl k) ?_
      refine own_st (mkF m 118 #[iv p1, jv q2, .second, iv p3, iv ln, jv rg, .second, rv b10, jv (own_waste rg ln), .second, jv ((ln.toInt64) + (16 : Int64)), .second, jv (((ln.toInt64) + (16 : Int64)) % (8 : Int64)), .second, jv (((ln.toInt64) + (16 : Int64)) + ((8 : Int64) - (((ln.toInt64) + (16 : Int64)) % (8 : Int64)))), .second, jv (0 : Int64), .second] [(.int (lcmpW (own_waste rg ln) (0 : Int64)))]) (fun t k => XS.lcmp X12.here hx rfl (hb hby at_117) rfl k) ?_
      refine own_st (mkF m 121 #[iv p1, jv q2, .second, iv p3, iv ln, jv rg, .second, rv b10, jv (own_waste rg ln), .second, jv ((ln.toInt64) + (16 : Int64)), .second, jv (((ln.toInt64) + (16 : Int64)) % (8 : Int64)), .second, jv (((ln.toInt64) + (16 : Int64)) + ((8 : Int64) - (((ln.toInt64) + (16 : Int64)) % (8 : Int64)))), .second, jv (0 : Int64), .second] []) (fun t k => XS.ifNo X12.here hx rfl (hb hby at_118) rfl (own_lne0 (by rw [own_fin _ _ hln hrg]; simp [own_sz, hc13, hc16])) k) ?_
      refine own_st (mkF m 122 #[iv p1, jv q2, .second, iv p3, iv ln, jv rg, .second, rv b10, jv (own_waste rg ln), .second, jv ((ln.toInt64) + (16 : Int64)), .second, jv (((ln.toInt64) + (16 : Int64)) % (8 : Int64)), .second, jv (((ln.toInt64) + (16 : Int64)) + ((8 : Int64) - (((ln.toInt64) + (16 : Int64)) % (8 : Int64)))), .second, jv (0 : Int64), .second] [(.int (1 : Int32))]) (fun t k => XS.iconst X12.here hx rfl (hb hby at_121) k) ?_
      refine own_st (mkF m 126 #[iv p1, jv q2, .second, iv p3, iv ln, jv rg, .second, rv b10, jv (own_waste rg ln), .second, jv ((ln.toInt64) + (16 : Int64)), .second, jv (((ln.toInt64) + (16 : Int64)) % (8 : Int64)), .second, jv (((ln.toInt64) + (16 : Int64)) + ((8 : Int64) - (((ln.toInt64) + (16 : Int64)) % (8 : Int64)))), .second, jv (0 : Int64), .second] [(.int (1 : Int32))]) (fun t k => XS.goto X12.here hx rfl (pc0 := 122) (pc' := 126) rfl (hb hby at_122) (by decide) (by decide) k) ?_
      refine own_ret X12 hlk (v := some (.int (1 : Int32))) (fun h => by rw [hret] at h; cases h) (fun fs hr => retN X12 hx (t := .boolean) hret (by simp) (hb hby at_126) hr) ?_ (by decide) (by decide)
      show own_Q0 Z p1 q2 p3 h0 n0 _ T12.heap _
      rw [e12]
      exact ⟨rfl, N12⟩
set_option maxRecDepth 65536 in
set_option maxHeartbeats 40000000 in
theorem own_comes {Post : Tables → Env → Array Value → State → Outcome → State → Prop} (hpost : ∀ tb e args s v u, (limb_1_1.after args s (.returned v) u = true ∧ limb_1_2.after args s (.returned v) u = true ∧ True) → FrameEnd s (.returned v) u (Jvm.fieldLocs frame_1_writes args s ++ Jvm.arrayLocs frame_1_arrays args s ++ Jvm.staticLocs frame_1_statics s) 16 128 → Post tb e args s (.returned v) u) :
    ArmFor flags0 classFile x code maxLocals ret World_1 tables_1 room_1 Calls_1 rest_1 Pre_1 Post := by
  intro l hfl _ _ p e ha hc hk s m args below hf hA hF happ hP
  obtain ⟨hcalls, hrest, hpre⟩ := hP
  obtain ⟨-, -, -, hnamed, -, -, -, hat⟩ := (Spec.applies_iff hf).mp happ
  obtain ⟨hg, hn⟩ := and_e (Cond.before_iff.mp (show (Jvm.Cond.and given_1 narrow_1).before args s = true from hpre))
  obtain ⟨hcnt, hg0⟩ := and_e hg
  obtain ⟨ha0, hg1⟩ := and_e hg0
  obtain ⟨ha1, hg2⟩ := and_e hg1
  obtain ⟨w0, w1, w2, rfl⟩ : ∃ w0 w1 w2 : Value, args = #[w0, w1, w2] := by
    have hs : args.size = 3 := by simpa [Cond.value, given_1] using hcnt
    obtain ⟨L⟩ := args
    match L, hs with
    | [w0, w1, w2], _ => exact ⟨w0, w1, w2, rfl⟩
  have hw := fun d (hd : d ∈ tables_1) => atoms_spec (ws := Jvm.Cond.code x code maxLocals ret :: tables_1) hat d (List.mem_cons_of_mem _ hd)
  have hfit : Fit s := fun {y c} hc i hi => by
    obtain ⟨ha, rfl⟩ := Array.getElem?_eq_some_iff.mp hc
    have q := List.all_eq_true.mp ((Array.all_eq_true_iff_forall_mem.mp hF) _ (Array.getElem_mem ha)) i (List.mem_range.mpr hi)
    simpa [Array.getElem?_eq_getElem hi] using q
  obtain ⟨i0, ei0⟩ := is_v ha0
  obtain rfl : w0 = (.int i0) := Option.some.inj ei0
  obtain ⟨i1, ei1⟩ := isL_v ha1
  obtain rfl : w1 = (.long i1) := Option.some.inj ei1
  obtain ⟨i2, ei2⟩ := is_v hg2
  obtain rfl : w2 = (.int i2) := Option.some.inj ei2
  obtain ⟨n, o, h1, h2, h3, _, L, rfl, ⟨rfl, N⟩, hq⟩ := own_rm0 l s _ hw tables_1 i0 i1 i2  s.heap s.heap.size (Nat.le_refl _)  p e ha hc hk s m _ below hf ((Spec.applies_iff_loose hf).mp happ).1 ⟨rfl, State.Warmed39.refl s, rfl⟩ trivial
  refine ⟨n, _, h1, h2, h3, hpost _ _ _ _ _ _ ⟨Cond.after_iff.mpr rfl, Cond.after_iff.mpr (eq_i res_at (Term.int_eval (1)) rfl), trivial⟩ ⟨hq.1, hq.2.1, (hq.2.2.sift fun y hy => Or.inr (N y hy)).mono (by decide) (by decide)⟩⟩
theorem main_1_1 : Claimed_1_1 := own_comes fun _ _ _ _ _ _ h hF => ⟨h.1, hF⟩
theorem main_1_2 : Claimed_1_2 := own_comes fun _ _ _ _ _ _ h hF => ⟨h.2.1, hF⟩
end Jvm.Pilot.@@N@@
namespace Jvm.Pilot.@@N@@
open Jvm Jvm.ClassFile Sem Op Lib Jvm.Free Jvm.Stand Jvm.Pilot.@@N@@.Jvm.D
/-! MADE BY PROGRAM (witnessworld.py) out of the Statement's table words and the real class files: 9 classes; the members and pool entries that the words name. The judged class is class 1, her method 1. -/
namespace start1
open Jvm.ClassFile
def u (s : String) : CpInfo := .utf8 (stringToUtf16 s)
/-- a pool by its gaps: so many unusable entries, then the entry; so many at the end -/
def gap : Nat → List CpInfo → List CpInfo
  | 0, r => r
  | n + 1, r => .unusable :: gap n r
def poolList (es : List (Nat × CpInfo)) (last : Nat) : List CpInfo := es.foldr (fun e r => gap e.1 (e.2 :: r)) (gap last [])
def pool (es : List (Nat × CpInfo)) (last : Nat) : Array CpInfo := ⟨poolList es last⟩
def fileOf (pool : Array CpInfo) (this : Nat) (attrs : Array Attribute := #[]) (ms : Array MethodInfo := #[]) (fl : Nat := 33) (sup : Nat := 0) (ifs : Array Nat := #[]) (fds : Array FieldInfo := #[]) : ClassFile where
  minorVersion := 0
  majorVersion := 65
  constantPool := pool
  accessFlags := fl
  thisClass := this
  superClass := sup
  interfaces := ifs
  fields := fds
  methods := ms
  attributes := attrs
def plain (name : String) (sup : Option ClassId) : Class where
  name := name
  kind := .ordinary
  loader := none
  accessFlags := 33
  super := sup
  interfaces := #[]
  cf := none
  fields := #[]
  methods := #[]
  instanceTypes := #[]
  staticTypes := #[]
  resolved := #[]
  callSites := []
  init := .initialized
  statics := none
  mirror := none

def pool0 : Array CpInfo := pool [(5, u "<init>"), (0, u "()V"), (1, .class_ 10), (1, u "java/lang/Object")] 113

def k0c0 : Code := { maxStack := 0, maxLocals := 1, code := object_method_1_code, exceptionTable := #[], attributes := #[] }
def k0m0 : Method := { name := "<init>", desc := "()V", sig := { parameters := [], returnType := none }, accessFlags := 1, code := some k0c0 }
/-- java/lang/Object -/
def k0 : Class := { plain "java/lang/Object" none with
  accessFlags := 33
  interfaces := #[]
  cf := some (fileOf pool0 8 #[] #[{ accessFlags := 1, nameIndex := 5, descriptorIndex := 6, attributes := #[] }] 33 0 #[] #[])
  fields := #[]
  methods := #[k0m0]
  instanceTypes := #[]
  staticTypes := #[]
  resolved := Array.replicate 124 none
  statics := none }

def pool1 : Array CpInfo := pool [(2, .class_ 4), (1, u "java/lang/Object"), (0, u "<init>"), (0, u "()V"), (0, .integer 2147483647), (0, .long 4611686018427387903), (1, .class_ 11), (0, u "com/example/ictor/ictor/protocol/HeapRegions"), (0, .methodref 10 13), (0, .nameAndType 5 14), (0, u "(J)V"), (0, .methodref 10 16), (0, .nameAndType 17 18), (0, u "waste"), (0, u "(I)J"), (0, .long 16), (1, .long 8), (1, .long 2), (1, .class_ 26), (0, u "com/example/ictor/ictor/protocol/HeapRegionsWastePinLaw"), (2, u "law"), (0, u "(IJI)Z")] 3

def k1m0 : Method := { name := "<init>", desc := "()V", sig := { parameters := [], returnType := none }, accessFlags := 1, code := none }
def k1c1 : Code := { maxStack := 6, maxLocals := 18, code := code, exceptionTable := #[], attributes := #[] }
def k1m1 : Method := { name := "law", desc := "(IJI)Z", sig := { parameters := [.int, .long, .int], returnType := some .boolean }, accessFlags := 9, code := some k1c1 }
/-- com/example/ictor/ictor/protocol/HeapRegionsWastePinLaw -/
def k1 : Class := { plain "com/example/ictor/ictor/protocol/HeapRegionsWastePinLaw" (some 0) with
  accessFlags := 49
  interfaces := #[]
  cf := some (fileOf pool1 25 #[] #[{ accessFlags := 1, nameIndex := 5, descriptorIndex := 6, attributes := #[] }, { accessFlags := 9, nameIndex := 29, descriptorIndex := 30, attributes := #[] }] 49 2 #[] #[])
  fields := #[]
  methods := #[k1m0, k1m1]
  instanceTypes := #[]
  staticTypes := #[]
  resolved := Array.replicate 34 none
  statics := none }

def pool2 : Array CpInfo := pool [(1, .methodref 2 3), (0, .class_ 4), (0, .nameAndType 5 6), (0, u "java/lang/Object"), (0, u "<init>"), (0, u "()V"), (0, .fieldref 8 9), (0, .class_ 10), (0, .nameAndType 11 12), (0, u "com/example/ictor/ictor/protocol/HeapRegions"), (0, u "regionSize"), (0, u "J"), (2, u "NONE"), (0, u "Lcom/example/ictor/ictor/protocol/HeapRegions;"), (36, u "(J)V"), (2, .long 16), (1, .long 8), (1, .long 2), (1, u "ARRAY_HEADER"), (0, u "I"), (2, u "OBJECT_ALIGNMENT"), (6, u "waste"), (0, u "(I)J")] 3

def k2c0 : Code := { maxStack := 3, maxLocals := 3, code := prog_7_method_1_code, exceptionTable := #[], attributes := #[] }
def k2m0 : Method := { name := "<init>", desc := "(J)V", sig := { parameters := [.long], returnType := none }, accessFlags := 1, code := some k2c0 }
def k2c1 : Code := { maxStack := 6, maxLocals := 8, code := prog_7_method_3_code, exceptionTable := #[], attributes := #[] }
def k2m1 : Method := { name := "waste", desc := "(I)J", sig := { parameters := [.int], returnType := some .long }, accessFlags := 1, code := some k2c1 }
/-- com/example/ictor/ictor/protocol/HeapRegions -/
def k2 : Class := { plain "com/example/ictor/ictor/protocol/HeapRegions" (some 0) with
  accessFlags := 33
  interfaces := #[]
  cf := some (fileOf pool2 8 #[] #[{ accessFlags := 1, nameIndex := 5, descriptorIndex := 53, attributes := #[] }, { accessFlags := 1, nameIndex := 73, descriptorIndex := 74, attributes := #[] }] 33 2 #[] #[{ accessFlags := 25, nameIndex := 15, descriptorIndex := 16, attributes := #[] }, { accessFlags := 26, nameIndex := 62, descriptorIndex := 63, attributes := #[] }, { accessFlags := 26, nameIndex := 66, descriptorIndex := 63, attributes := #[] }, { accessFlags := 18, nameIndex := 11, descriptorIndex := 12, attributes := #[] }])
  fields := #[{ name := "NONE", type := (.object "com/example/ictor/ictor/protocol/HeapRegions"), accessFlags := 25, slot := 0, constantValue := 0 }, { name := "ARRAY_HEADER", type := .int, accessFlags := 26, slot := 1, constantValue := 0 }, { name := "OBJECT_ALIGNMENT", type := .int, accessFlags := 26, slot := 2, constantValue := 0 }, { name := "regionSize", type := .long, accessFlags := 18, slot := 0, constantValue := 0 }]
  methods := #[k2m0, k2m1]
  instanceTypes := #[.long]
  staticTypes := #[(.object "com/example/ictor/ictor/protocol/HeapRegions"), .int, .int]
  resolved := Array.replicate 78 none
  statics := none }

def pool3 : Array CpInfo := pool [(1, u "java/lang/Cloneable"), (0, .class_ 1), (0, u "java/lang/Object"), (0, .class_ 3)] 3

/-- java/lang/Cloneable -/
def k3 : Class := { plain "java/lang/Cloneable" (some 0) with
  accessFlags := 1537
  interfaces := #[]
  cf := some (fileOf pool3 2 #[] #[] 1537 4 #[] #[])
  fields := #[]
  methods := #[]
  instanceTypes := #[]
  staticTypes := #[]
  resolved := Array.replicate 8 none
  statics := none }

def pool4 : Array CpInfo := pool [(1, u "java/io/Serializable"), (0, .class_ 1), (0, u "java/lang/Object"), (0, .class_ 3)] 3

/-- java/io/Serializable -/
def k4 : Class := { plain "java/io/Serializable" (some 0) with
  accessFlags := 1537
  interfaces := #[]
  cf := some (fileOf pool4 2 #[] #[] 1537 4 #[] #[])
  fields := #[]
  methods := #[]
  instanceTypes := #[]
  staticTypes := #[]
  resolved := Array.replicate 8 none
  statics := none }

/-- the primitive byte -/
def k5 : Class := { plain "byte" none with kind := .primitive 'B', accessFlags := 0x411 }
/-- [B -/
def k6 : Class := { plain "[B" (some 0) with kind := .array 5 .byte, interfaces := #[3, 4], accessFlags := 1041 }

/-- the primitive int -/
def k7 : Class := { plain "int" none with kind := .primitive 'I', accessFlags := 0x411 }
/-- [I -/
def k8 : Class := { plain "[I" (some 0) with kind := .array 7 .int, interfaces := #[3, 4], accessFlags := 1041 }

def heap : Heap := #[]
def classes : Array Class := #[k0, k1, k2, k3, k4, k5, k6, k7, k8]
def interned : List (Array UInt16 × Addr) := []
def slotsUsed : Nat := 0
def theMethod : MethodId := ⟨1, 1⟩
def args0 : Array Value := #[.int 5, .long 600, .int 3]
def aboutOver (below : List Frame) : State where
  vm := { classes := classes, interned := interned.toArray }
  heap := heap
  slotsUsed := slotsUsed
  threads := #[{ frames := .invoking theMethod args0 :: below }]
def below0 : List Frame := [.native { method := ⟨0, 0⟩, args := #[] }]
def about1 : State := aboutOver below0
def p0 : Program := .bare "" "" ""
def e0 : Env := launch0.env 0 0 0
theorem w_frames : about1.frames = Frame.invoking theMethod args0 :: below0 := rfl
set_option maxRecDepth 65536 in
theorem w_args : argsFit about1.vm theMethod args0 = true := by decide +kernel
set_option maxRecDepth 65536 in
theorem w_heap : heapFits about1 = true := by decide +kernel
set_option maxRecDepth 65536 in
theorem w_runnable : about1.curStatus? = some .runnable := by decide +kernel
set_option maxRecDepth 65536 in
theorem w_alone : about1.alone = true := by decide +kernel
set_option maxRecDepth 65536 in
theorem w_named : about1.methodNamed? x = some theMethod := by decide +kernel
set_option maxRecDepth 65536 in
theorem w_hears : about1.hears theMethod below0 = true := by decide +kernel
set_option maxRecDepth 65536 in
theorem w_ripe : about1.ripe theMethod args0 below0 = true := by decide +kernel
theorem w_running : about1.status = .running := rfl
set_option maxRecDepth 65536 in
theorem w_room : about1.hasRoom e0.platform room_1 = true :=
  launch0.hasRoom_least _ room_1 (by decide +kernel) (by decide +kernel) (by decide +kernel) (by decide +kernel) (by decide +kernel) (by decide +kernel)
theorem allAtoms_all (ts : List Jvm.Cond) (a : Array Jvm.Value) (st : Jvm.State) : (allAtoms ts).before a st = ts.all (fun c => c.before a st) := by
  induction ts with
  | nil => rfl
  | cons c t ih =>
    show (Jvm.Cond.and c (allAtoms t)).before a st = _
    rw [Jvm.Cond.before_and, ih, List.all_cons]
def words1 : List Jvm.Cond := Jvm.Cond.code x code maxLocals ret :: tables_1
/-- a 'code' word, met by the world's own term for the bytes: nothing is compared byte by byte -/
theorem code_word {y : MethodName} {bytes : ByteArray} {mx : Nat} {rt : Option FieldType} {a : Array Value} {s : State} {m : MethodId} {meth : Method} {c : Code} (h1 : s.methodNamed? y = some m) (h2 : s.vm.method? m = some meth) (h3 : meth.code = some c) (h4 : c.code = bytes)
    (h5 : (c.maxLocals == mx && c.exceptionTable.isEmpty && decide (c.maxStack ≤ mostOperands) && decide (meth.sig.returnType = rt) && !meth.locks && decide (parseMethodDescriptor y.desc = some meth.sig)) = true) : (Jvm.Cond.code y bytes mx rt).before a s = true := by
  simp only [Bool.and_eq_true, beq_iff_eq, Bool.not_eq_true', decide_eq_true_eq] at h5
  obtain ⟨⟨⟨⟨⟨g1, g2⟩, g3⟩, g4⟩, g5⟩, g6⟩ := h5
  simp [Cond.before, Cond.holds, Cond.value, h1, h2, h3, h4, g1, g2, g3, g4, g5, g6]
def isCode : Jvm.Cond → Bool
  | .code _ _ _ _ => true
  | _ => false
theorem all_split {L : List Jvm.Cond} {P : Jvm.Cond → Bool} (h1 : L.all (fun c => isCode c || P c) = true) (h2 : ∀ c ∈ L.filter isCode, P c = true) : L.all P = true := by
  refine List.all_eq_true.mpr fun c hc => ?_
  have h := List.all_eq_true.mp h1 c hc
  rcases Bool.eq_false_or_eq_true (isCode c) with hi | hi
  · exact h2 c (List.mem_filter.mpr ⟨hc, hi⟩)
  · simpa [hi] using h
set_option maxRecDepth 65536 in
theorem w_c0 : (Jvm.Cond.code x code maxLocals ret).before args0 about1 = true := code_word (m := ⟨1, 1⟩) (meth := k1m1) (c := k1c1) (by decide +kernel) rfl rfl rfl (by decide +kernel)
set_option maxRecDepth 65536 in
theorem w_c1 : (Jvm.Cond.code ({ cls := "com/example/ictor/ictor/protocol/HeapRegions", name := "<init>", desc := "(J)V" } : Jvm.MethodName) prog_7_method_1_code (3 : Nat) (Option.none : Option Jvm.ClassFile.FieldType)).before args0 about1 = true := code_word (m := ⟨2, 0⟩) (meth := k2m0) (c := k2c0) (by decide +kernel) rfl rfl rfl (by decide +kernel)
set_option maxRecDepth 65536 in
theorem w_c2 : (Jvm.Cond.code ({ cls := "java/lang/Object", name := "<init>", desc := "()V" } : Jvm.MethodName) object_method_1_code (1 : Nat) (Option.none : Option Jvm.ClassFile.FieldType)).before args0 about1 = true := code_word (m := ⟨0, 0⟩) (meth := k0m0) (c := k0c0) (by decide +kernel) rfl rfl rfl (by decide +kernel)
set_option maxRecDepth 65536 in
theorem w_c3 : (Jvm.Cond.code ({ cls := "com/example/ictor/ictor/protocol/HeapRegions", name := "waste", desc := "(I)J" } : Jvm.MethodName) prog_7_method_3_code (8 : Nat) (Option.some Jvm.ClassFile.FieldType.long)).before args0 about1 = true := code_word (m := ⟨2, 1⟩) (meth := k2m1) (c := k2c1) (by decide +kernel) rfl rfl rfl (by decide +kernel)
def codes1 : List Jvm.Cond := [Jvm.Cond.code x code maxLocals ret, Jvm.Cond.code ({ cls := "com/example/ictor/ictor/protocol/HeapRegions", name := "<init>", desc := "(J)V" } : Jvm.MethodName) prog_7_method_1_code (3 : Nat) (Option.none : Option Jvm.ClassFile.FieldType), Jvm.Cond.code ({ cls := "java/lang/Object", name := "<init>", desc := "()V" } : Jvm.MethodName) object_method_1_code (1 : Nat) (Option.none : Option Jvm.ClassFile.FieldType), Jvm.Cond.code ({ cls := "com/example/ictor/ictor/protocol/HeapRegions", name := "waste", desc := "(I)J" } : Jvm.MethodName) prog_7_method_3_code (8 : Nat) (Option.some Jvm.ClassFile.FieldType.long)]
set_option maxRecDepth 65536 in
theorem codes_eq : words1.filter isCode = codes1 := rfl
theorem w_codes : ∀ c ∈ words1.filter isCode, c.before args0 about1 = true := by
  rw [codes_eq]
  intro c hc
  simp only [codes1, List.mem_cons, List.not_mem_nil, or_false] at hc
  rcases hc with rfl | rfl | rfl | rfl
  · exact w_c0
  · exact w_c1
  · exact w_c2
  · exact w_c3
set_option maxRecDepth 65536 in
theorem w_t1 : (words1.take 24).all (fun c => isCode c || c.before args0 about1) = true := by decide +kernel
set_option maxRecDepth 65536 in
theorem w_t2 : (words1.drop 24).all (fun c => isCode c || c.before args0 about1) = true := by decide +kernel
theorem w_tables : (allAtoms (Jvm.Cond.code x code maxLocals ret :: tables_1)).before args0 about1 = true := by
  rw [allAtoms_all]
  show words1.all (fun c => c.before args0 about1) = true
  refine all_split ?_ w_codes
  rw [← List.take_append_drop 24 words1, List.all_append, w_t1, w_t2]
  rfl
set_option maxRecDepth 65536 in
theorem w_case : (Jvm.Cond.and given_1 narrow_1).before args0 about1 = true := by decide +kernel
theorem w_applies : (headSpec (Jvm.Cond.code x code maxLocals ret :: tables_1) room_1).applies x e0.platform about1 = true :=
  (Spec.applies_iff w_frames).mpr ⟨w_running, w_runnable, w_alone, w_named, w_hears, w_ripe, w_room, w_tables⟩
theorem atStart : AtStart classFile x code maxLocals ret World_1 tables_1 room_1 Calls_1 rest_1 Pre_1 launch0 p0 e0 about1 theMethod args0 below0 :=
  ⟨lists_1, trivial, launch0.admits_env _ _ _, launch0.least_env, fairChoices_fair.cas, fairChoices_fair.clock, w_frames, w_args, w_heap, w_applies, trivial, trivial, w_case⟩
end start1
theorem witness_1 : WitnessClaimed_1 := ⟨start1.p0, start1.e0, start1.about1, start1.theMethod, start1.args0, start1.below0, start1.atStart⟩
end Jvm.Pilot.@@N@@
